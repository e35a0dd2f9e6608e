import JvmDerived
import JvmDerived.Pilot.@@N@@Statement
import JvmDerived.Pilot.@@N@@Code
set_option linter.unusedVariables false
set_option linter.unusedSimpArgs false
namespace Jvm.Pilot.@@N@@
open Jvm Jvm.ClassFile Sem Op Lib Jvm.Free Jvm.Stand Jvm.LawKit Jvm.RoadKit Bundle Jvm.Pilot.@@N@@.Jvm.D
/-! own layer: the run from a state ends in a return of which Q holds; one step leads from there to there -/
def own_ishl (x y : Int32) : Int32 := x <<< (y &&& 31)
def own_ishr (x y : Int32) : Int32 := x >>> (y &&& 31)
def own_iushr (x y : Int32) : Int32 := (x.toUInt32 >>> (y &&& 31).toUInt32).toInt32
def own_lshl (x : Int64) (y : Int32) : Int64 := x <<< (y &&& 0x3f).toInt64
def own_lshr (x : Int64) (y : Int32) : Int64 := x >>> (y &&& 0x3f).toInt64
def own_lushr (x : Int64) (y : Int32) : Int64 := (x.toUInt64 >>> (y &&& 0x3f).toInt64.toUInt64).toInt64
def own_i2b (x : Int32) : Int32 := x.toInt8.toInt32
def own_i2c (x : Int32) : Int32 := x.toUInt32.toUInt16.toUInt32.toInt32
def own_Fin (tb : Tables) (e : Env) (below : List Frame) (s : State) (Q : Option Value → Heap → List Loc → Prop) (k n : Nat) (t : State) : Prop :=
  ∃ s₂ o, Steps tb e below t s₂ ∧ s₂.status = .running ∧ Ended s₂ below o ∧ ∃ v L, o = .returned v ∧ Q v s₂.heap L ∧ FrameEnd s o s₂ L k n
theorem own_go {tb : Tables} {e : Env} {below : List Frame} {s : State} {Q : Option Value → Heap → List Loc → Prop} {k n : Nat} {t t' : State}
    (h : ∀ target, Steps tb e below t' target → Steps tb e below t target) (q : own_Fin tb e below s Q k n t') : own_Fin tb e below s Q k n t := by
  obtain ⟨s2, o, h1, h2⟩ := q
  exact ⟨s2, o, h _ h1, h2⟩
def own_QP (r : Option Value) (h0 : Heap) (n0 : Nat) (v : Option Value) (h : Heap) (L : List Loc) : Prop := v = r ∧ Fr n0 L ∧ h = h0
section OwnA
variable {p : Program} {l : Launch} {e : Env} {R : Room} {s : State} {m : MethodId} {args : Array Value} {below : List Frame} {meth : Method} {c : Code} {T : State} {locs : List Loc} {cells slots : Nat}
theorem own_mono (X : Stand p l e R s m args below meth c T locs cells slots) {k n : Nat} (hk : cells ≤ k) (hn : slots ≤ n) : Stand p l e R s m args below meth c T locs k n :=
  { X with same := X.same.mono hk hn }
theorem own_ret (X : Stand p l e R s m args below meth c T locs cells slots) (hx : p.tables.exec = Jvm.exec) (hlk : meth.locks = false) {pc : Nat} {Ls : Array Slot} {w : Value} {t : FieldType} {i : Instr} {rest : List Value} (hret : meth.sig.returnType = some t) (hn : narrow t w = w)
    (hi : (i = .ireturn ∧ (t = .int ∨ t = .boolean ∨ t = .byte ∨ t = .char ∨ t = .short) ∧ ∃ z, w = .int z) ∨ (i = .lreturn ∧ t = .long ∧ ∃ z, w = .long z) ∨ (i = .dreturn ∧ t = .double ∧ ∃ z, w = .double z) ∨ (i = .freturn ∧ t = .float ∧ ∃ z, w = .float z) ∨ (i = .areturn ∧ t.isReference = true ∧ w.isRef = true))
    (hd : decode c.code pc = .ok (i, 1)) {Q : Option Value → Heap → List Loc → Prop} {k n : Nat} (hk : cells ≤ k) (hs : slots ≤ n) (hQ : Q (some w) T.heap locs) :
    own_Fin p.tables e below s Q k n (T.setTop (mkF m pc Ls (w :: rest))) := by
  obtain ⟨fs, hr, hrun, hended, hW, hsame⟩ := X.leave (v := some w) (fun h => by rw [hret] at h; cases h) hlk
  exact ⟨_, _, retOut X hx hret hn hi hd hr, hrun, hended, _, _, rfl, hQ, ⟨_, rfl⟩, hW, hsame.mono hk hs⟩
theorem own_retV (X : Stand p l e R s m args below meth c T locs cells slots) (hx : p.tables.exec = Jvm.exec) (hlk : meth.locks = false) {pc : Nat} {Ls : Array Slot} (hret : meth.sig.returnType = none)
    (hd : decode c.code pc = .ok (.return_, 1)) {Q : Option Value → Heap → List Loc → Prop} {k n : Nat} (hk : cells ≤ k) (hs : slots ≤ n) (hQ : Q none T.heap locs) :
    own_Fin p.tables e below s Q k n (T.setTop (mkF m pc Ls [])) := by
  obtain ⟨fs, hr, hrun, hended, hW, hsame⟩ := X.leave (v := none) (fun _ => rfl) hlk
  exact ⟨_, _, X.returnOut hx hret hd hr, hrun, hended, _, _, rfl, hQ, ⟨_, rfl⟩, hW, hsame.mono hk hs⟩
end OwnA
theorem own_irem {tb : Tables} [Ours tb] {e : Env} {below : List Frame} {T target : State} {m : MethodId} {c : Code} {g : JFrame} (h : At T m c below) (hx : tb.exec = Jvm.exec) (hg : g.method = m) {x y : Int32} {rest : List Value} (hd : decode c.code g.pc = .ok (.irem, 1)) (hs : g.stack = .int y :: .int x :: rest) (hy : y ≠ 0)
    (hr : Steps tb e below (T.setTop { g with pc := g.pc + 1, stack := .int (x % y) :: rest }) target) : Steps tb e below (T.setTop g) target :=
  XS.irem h hx hg hd hs hy (by rw [irem_eq_mod x y]; exact hr)
theorem own_lrem {tb : Tables} [Ours tb] {e : Env} {below : List Frame} {T target : State} {m : MethodId} {c : Code} {g : JFrame} (h : At T m c below) (hx : tb.exec = Jvm.exec) (hg : g.method = m) {x y : Int64} {rest : List Value} (hd : decode c.code g.pc = .ok (.lrem, 1)) (hs : g.stack = .long y :: .long x :: rest) (hy : y ≠ 0)
    (hr : Steps tb e below (T.setTop { g with pc := g.pc + 1, stack := .long (x % y) :: rest }) target) : Steps tb e below (T.setTop g) target :=
  XS.lrem h hx hg hd hs hy (by rw [lrem_mod x y]; exact hr)
/-! arrays by a function of the place -/
def own_set {α : Type} (f : Nat → α) (j : Int32) (v : α) : Nat → α := fun i => if i = j.toNatClampNeg then v else f i
def own_Arf (Z : State) (h : Heap) (a : Addr) (ty : FieldType) (n : Int32) (f : Nat → Value) : Prop :=
  ∃ c : Cell, Arr Z h a c ty ∧ c.slots.size = n.toNatClampNeg ∧ ¬ n < 0 ∧ ∀ i, i < n.toNatClampNeg → c.slots[i]? = some (f i)
section OwnB
variable {Z : State} {h h' : Heap} {a b : Addr} {ty : FieldType} {n j : Int32} {f : Nat → Value} {ws : List Addr} {v : Value} {sl : Nat}
theorem own_Arf.lt (F : own_Arf Z h a ty n f) : a < h.size := by obtain ⟨c, A, -⟩ := F; exact A.lt
theorem own_Arf.ext (F : own_Arf Z h a ty n f) (E : Ext h h') : own_Arf Z h' a ty n f := by obtain ⟨c, A, r⟩ := F; exact ⟨c, A.ext E, r⟩
theorem own_Arf.other (F : own_Arf Z h b ty n f) (W : Wr h h' a sl v) (q : b ≠ a) : own_Arf Z h' b ty n f := by obtain ⟨c, A, r⟩ := F; exact ⟨c, A.other W q, r⟩
theorem own_Arf.keep (F : own_Arf Z h a ty n f) (K : Keep h h' ws) (q : a ∉ ws) : own_Arf Z h' a ty n f := by obtain ⟨c, A, r⟩ := F; exact ⟨c, ⟨K.2.1 a c A.1 q, A.2⟩, r⟩
theorem own_Arf.new {k : ClassId} (A : Arr Z h a (newA k ty n) ty) (q : ¬ n < 0) : own_Arf Z h a ty n (fun _ => defaultValue ty) :=
  ⟨_, A, sz_new _ _ _, q, fun i hi => by simp [newA, hi]⟩
theorem own_Arf.wr (F : own_Arf Z h a ty n f) (W : Wr h h' a j.toNatClampNeg v) : own_Arf Z h' a ty n (fun i => if i = j.toNatClampNeg then v else f i) := by
  obtain ⟨c, A, S, q, H⟩ := F
  refine ⟨_, A.same W, by rw [sz_set]; exact S, q, fun i hi => ?_⟩
  by_cases u : i = j.toNatClampNeg
  · subst u; simp [Cell.setSlot, S, hi]
  · simp only [if_neg u, Cell.setSlot]; rw [Array.getElem?_setIfInBounds_ne (Ne.symm u)]; exact H i hi
theorem own_Arf.fn {g : Nat → Value} (F : own_Arf Z h a ty n f) (q : ∀ i, i < n.toNatClampNeg → f i = g i) : own_Arf Z h a ty n g := by
  obtain ⟨c, A, S, q', H⟩ := F
  exact ⟨c, A, S, q', fun i hi => by rw [← q i hi]; exact H i hi⟩
variable {p : Program} {l : Launch} {e : Env} {R : Room} {s : State} {m : MethodId} {args : Array Value} {below : List Frame} {meth : Method} {c : Code} {T : State} {locs : List Loc} {cells slots : Nat} {g : JFrame} {rest : List Value}
theorem own_alen (X : Stand p l e R s m args below meth c T locs cells slots) (hx : p.tables.exec = Jvm.exec) (hZ : Z.Warmed39 s.vm) (eT : T.heap = h) (F : own_Arf Z h a ty n f) (hg : g.method = m) (hs : g.stack = .ref a :: rest) (hd : decode c.code g.pc = .ok (.arraylength, 1)) (target : State)
    (hr : Steps p.tables e below (T.setTop { g with pc := g.pc + 1, stack := .int n :: rest }) target) : Steps p.tables e below (T.setTop g) target := by
  obtain ⟨cl, A, S, q, H⟩ := F
  refine X.arraylength hx (by rw [eT]; exact A.1) (State.isArrayOf_alike hZ.alike A.2.1) hg hs hd _ ?_
  rw [len_of S q]; exact hr
theorem own_iaload (X : Stand p l e R s m args below meth c T locs cells slots) (hx : p.tables.exec = Jvm.exec) (hZ : Z.Warmed39 s.vm) (eT : T.heap = h) (F : own_Arf Z h a .int n f) (hj : ¬ j < 0 ∧ j < n) {x : Int32} (hv : f j.toNatClampNeg = .int x) (hg : g.method = m) (hs : g.stack = .int j :: .ref a :: rest) (hd : decode c.code g.pc = .ok (.iaload, 1)) (target : State)
    (hr : Steps p.tables e below (T.setTop { g with pc := g.pc + 1, stack := .int x :: rest }) target) : Steps p.tables e below (T.setTop g) target := by
  obtain ⟨cl, A, S, q, H⟩ := F
  have hin := inb_of S hj
  exact X.iaload hx (by rw [eT]; exact A.1) (State.isArrayOf_alike hZ.alike A.2.1) A.2.2 hin (by rw [H _ (by rw [← S]; omega), hv]) hg hs hd _ hr
theorem own_baload (X : Stand p l e R s m args below meth c T locs cells slots) (hx : p.tables.exec = Jvm.exec) (hZ : Z.Warmed39 s.vm) (eT : T.heap = h) (F : own_Arf Z h a .byte n f) (hj : ¬ j < 0 ∧ j < n) {x : Int32} (hv : f j.toNatClampNeg = .int x) (hg : g.method = m) (hs : g.stack = .int j :: .ref a :: rest) (hd : decode c.code g.pc = .ok (.baload, 1)) (target : State)
    (hr : Steps p.tables e below (T.setTop { g with pc := g.pc + 1, stack := .int x :: rest }) target) : Steps p.tables e below (T.setTop g) target := by
  obtain ⟨cl, A, S, q, H⟩ := F
  have hin := inb_of S hj
  exact X.baloadBytes hx (by rw [eT]; exact A.1) (State.isArrayOf_alike hZ.alike A.2.1) A.2.2 hin (by rw [H _ (by rw [← S]; omega), hv]) hg hs hd _ hr
theorem own_laload (X : Stand p l e R s m args below meth c T locs cells slots) (hx : p.tables.exec = Jvm.exec) (hZ : Z.Warmed39 s.vm) (eT : T.heap = h) (F : own_Arf Z h a .long n f) (hj : ¬ j < 0 ∧ j < n) {x : Int64} (hv : f j.toNatClampNeg = .long x) (hg : g.method = m) (hs : g.stack = .int j :: .ref a :: rest) (hd : decode c.code g.pc = .ok (.laload, 1)) (target : State)
    (hr : Steps p.tables e below (T.setTop { g with pc := g.pc + 1, stack := .long x :: rest }) target) : Steps p.tables e below (T.setTop g) target := by
  obtain ⟨cl, A, S, q, H⟩ := F
  have hin := inb_of S hj
  exact X.laload hx (by rw [eT]; exact A.1) (State.isArrayOf_alike hZ.alike A.2.1) A.2.2 hin (by rw [H _ (by rw [← S]; omega), hv]) hg hs hd _ hr
theorem own_stI (X : Stand p l e R s m args below meth c T locs cells slots) (hx : p.tables.exec = Jvm.exec) (hZ : Z.Warmed39 s.vm) (eT : T.heap = h) {q : Nat → Int32} (F : own_Arf Z h a .int n (fun i => .int (q i))) (hj : ¬ j < 0 ∧ j < n) {x : Int32} (hg : g.method = m) (hs : g.stack = .int x :: .int j :: .ref a :: rest) (hd : decode c.code g.pc = .ok (.iastore, 1)) :
    ∃ T' h', Stand p l e R s m args below meth c T' (locs ++ [⟨a, j.toNatClampNeg⟩]) cells slots ∧ T'.heap = h' ∧ Wr h h' a j.toNatClampNeg (.int x) ∧ own_Arf Z h' a .int n (fun i => .int (own_set q j x i)) ∧ ∀ target, Steps p.tables e below (T'.setTop { g with pc := g.pc + 1, stack := rest }) target → Steps p.tables e below (T.setTop g) target := by
  obtain ⟨cl, A, S, q1, H⟩ := F
  obtain ⟨T', h', X', e', W, st⟩ := stI X hx hZ eT A (inb_of S hj) hg hs hd
  refine ⟨T', h', X', e', W, (own_Arf.wr ⟨cl, A, S, q1, H⟩ W).fn fun i hi => ?_, st⟩
  simp only [own_set]; split <;> rfl
theorem own_stB (X : Stand p l e R s m args below meth c T locs cells slots) (hx : p.tables.exec = Jvm.exec) (hZ : Z.Warmed39 s.vm) (eT : T.heap = h) {q : Nat → Int32} (F : own_Arf Z h a .byte n (fun i => .int (q i))) (hj : ¬ j < 0 ∧ j < n) {x : Int32} (hg : g.method = m) (hs : g.stack = .int x :: .int j :: .ref a :: rest) (hd : decode c.code g.pc = .ok (.bastore, 1)) :
    ∃ T' h', Stand p l e R s m args below meth c T' (locs ++ [⟨a, j.toNatClampNeg⟩]) cells slots ∧ T'.heap = h' ∧ Wr h h' a j.toNatClampNeg (.int (own_i2b x)) ∧ own_Arf Z h' a .byte n (fun i => .int (own_set q j (own_i2b x) i)) ∧ ∀ target, Steps p.tables e below (T'.setTop { g with pc := g.pc + 1, stack := rest }) target → Steps p.tables e below (T.setTop g) target := by
  obtain ⟨cl, A, S, q1, H⟩ := F
  obtain ⟨T', h', X', e', W, st⟩ := stB X hx hZ eT A (inb_of S hj) hg hs hd
  refine ⟨T', h', X', e', W, (own_Arf.wr ⟨cl, A, S, q1, H⟩ W).fn fun i hi => ?_, st⟩
  simp only [own_set]; split <;> rfl
theorem own_stJ (X : Stand p l e R s m args below meth c T locs cells slots) (hx : p.tables.exec = Jvm.exec) (hZ : Z.Warmed39 s.vm) (eT : T.heap = h) {q : Nat → Int64} (F : own_Arf Z h a .long n (fun i => .long (q i))) (hj : ¬ j < 0 ∧ j < n) {x : Int64} (hg : g.method = m) (hs : g.stack = .long x :: .int j :: .ref a :: rest) (hd : decode c.code g.pc = .ok (.lastore, 1)) :
    ∃ T' h', Stand p l e R s m args below meth c T' (locs ++ [⟨a, j.toNatClampNeg⟩]) cells slots ∧ T'.heap = h' ∧ Wr h h' a j.toNatClampNeg (.long x) ∧ own_Arf Z h' a .long n (fun i => .long (own_set q j x i)) ∧ ∀ target, Steps p.tables e below (T'.setTop { g with pc := g.pc + 1, stack := rest }) target → Steps p.tables e below (T.setTop g) target := by
  obtain ⟨cl, A, S, q1, H⟩ := F
  obtain ⟨T', h', X', e', W, st⟩ := stJ X hx hZ eT A (inb_of S hj) hg hs hd
  refine ⟨T', h', X', e', W, (own_Arf.wr ⟨cl, A, S, q1, H⟩ W).fn fun i hi => ?_, st⟩
  simp only [own_set]; split <;> rfl
end OwnB
def own_QL (r : Option Value) (n0 : Nat) (v : Option Value) (h : Heap) (L : List Loc) : Prop := v = r ∧ Fr n0 L ∧ True
theorem own_ne_arf {Z : State} {h : Heap} {a b : Addr} {C : String} {ty : FieldType} {n : Int32} {f : Nat → Value} {a0 : Array Value} {k : Nat} (F : Exa Z h a C) (wi : (Cond.instantiable C k).before a0 Z = true) (G : own_Arf Z h b ty n f) : a ≠ b := by
  obtain ⟨c, A, -⟩ := G; exact ne_arr F wi A
def own_Two (a b : Slot) : Prop := (a = .unset ∧ b = .unset) ∨ ∃ x : Int64, a = .val (.long x) ∧ b = .second
theorem d1_0 : decode prog_58_method_1_code 0 = .ok (.aload_n 0, 1) := by decide +kernel
theorem d1_1 : decode prog_58_method_1_code 1 = .ok (.invokespecial 1, 3) := by decide +kernel
theorem d1_4 : decode prog_58_method_1_code 4 = .ok (.aload_n 0, 1) := by decide +kernel
theorem d1_5 : decode prog_58_method_1_code 5 = .ok (.lload_n 1, 1) := by decide +kernel
theorem d1_6 : decode prog_58_method_1_code 6 = .ok (.putfield 7, 3) := by decide +kernel
theorem d1_9 : decode prog_58_method_1_code 9 = .ok (.return_, 1) := by decide +kernel
theorem pn_1 : plainName "com/example/cordon/cordon/Rng" = true := by first | (simp [plainName, overriddenIn]; done) | decide +kernel
theorem ef_1 (m : MethodId) (r0 : Addr) (q1 : Int64) : entryFrame m #[(.ref r0), (.long q1)] 3 = mkF m 0 #[.val (.ref r0), .val (.long q1), .second] [] := by first | (simp [entryFrame, mkF, argsToLocals, Value.category]; done) | rfl
def rm1_room : Room := { frames := 1, cells := 0, slots := 0, locals := 12 }
def Qrm1 (Z : State) (r0 : Addr) (q1 : Int64) (x1 : Int64) (h0 : Heap) (n0 : Nat) (v : Option Value) (h : Heap) (L : List Loc) : Prop := v = none ∧ Fr n0 L ∧ Keep h0 h [r0] ∧ Exa Z h r0 "com/example/cordon/cordon/Rng" ∧ Fld Z h r0 "com/example/cordon/cordon/Rng" "state" "J" (.long q1)
set_option maxRecDepth 65536 in
set_option maxHeartbeats 40000000 in
theorem rm1 (l : Launch) (Z : State) (a0 : Array Value) (hw : ∀ d ∈ tables_1, d.before a0 Z = true) (ws : List Jvm.Cond) (r0 : Addr) (q1 : Int64) (x1 : Int64) (h0 : Heap) (n0 : Nat) (Z0 : n0 ≤ h0.size) (E_r0_0 : Exa Z h0 r0 "com/example/cordon/cordon/Rng") (F_state_r0_0 : Fld Z h0 r0 "com/example/cordon/cordon/Rng" "state" "J" (.long x1)) (ge_r0 : n0 ≤ r0) :
    MetFree l (⟨"com/example/cordon/cordon/Rng", "<init>", "(J)V"⟩ : MethodName) (head1 (Jvm.Cond.code (⟨"com/example/cordon/cordon/Rng", "<init>", "(J)V"⟩ : MethodName) prog_58_method_1_code 3 none :: ws) rm1_room) (fun a U => a = #[(.ref r0), (.long q1)] ∧ Z.Warmed39 U.vm ∧ U.heap = h0) (fun _ _ _ _ _ => True) (fun _ U o U' => ∃ v L, o = .returned v ∧ Qrm1 Z r0 q1 x1 h0 n0 v U'.heap L ∧ FrameEnd U o U' L rm1_room.cells rm1_room.slots) := by
  refine MetFree.of_bodySF (plainFor_of_name pn_1) hisR ?_
  intro p e s m args below meth c s₁ Bd hml0 hP hK
  obtain ⟨rfl, hZ, hh⟩ := hP
  have hx := Bd.exec
  have hby := Bd.bytes
  have hml : c.maxLocals = 3 := hml0
  have hown : s.vm.findClass "com/example/cordon/cordon/Rng" = some m.cls := findClass_of_methodNamed Bd.named
  have hnm := (name_of_methodNamed Bd.named Bd.method).1
  have hlk : meth.locks = false := BodyLoose.notSynchronized Bd
  have X0 : Stand p l e rm1_room s m #[(.ref r0), (.long q1)] below meth c s₁ [] 0 0 := Stand.of_body Bd
  have e0 : s₁.heap = h0 := by rw [← hh, Bd.state]; rfl
  have N0 := Fr.nil n0
  show own_Fin p.tables e below s (Qrm1 Z r0 q1 x1 h0 n0) rm1_room.cells rm1_room.slots (s₁.setTop (entryFrame m #[(.ref r0), (.long q1)] 3))
  rw [ef_1]
  show own_Fin _ _ _ _ _ _ _ (s₁.setTop (mkF m 0 #[.val (.ref r0), .val (.long q1), .second] []))
  have K0 := Keep.refl h0 [r0]
  refine own_go (fun _ k => XS.aloadN X0.here hx rfl (hb hby d1_0) rfl rfl k) ?_
  show own_Fin _ _ _ _ _ _ _ (s₁.setTop (mkF m 1 #[.val (.ref r0), .val (.long q1), .second] [(.ref r0)]))
  obtain ⟨T1, X1, e1, st1⟩ := initO X0 hx hZ hown (hw _ (List.mem_of_getElem? (i := 6) rfl)) (hw _ (List.mem_of_getElem? (i := 7) rfl)) (hw _ (List.mem_of_getElem? (i := 8) rfl)) e0 (g := (mkF m 1 #[.val (.ref r0), .val (.long q1), .second] [(.ref r0)])) rfl (by rw [hml]; rfl) rfl (hb hby d1_1) (by decide) (W := 0) (by show 2 * 0 + _ ≤ _; exact Nat.le_of_eq rfl) (by decide)
  refine own_go (fun tg k => st1 tg k) ?_
  show own_Fin _ _ _ _ _ _ _ (T1.setTop (mkF m 4 #[.val (.ref r0), .val (.long q1), .second] []))
  refine own_go (fun _ k => XS.aloadN X1.here hx rfl (hb hby d1_4) rfl rfl k) ?_
  show own_Fin _ _ _ _ _ _ _ (T1.setTop (mkF m 5 #[.val (.ref r0), .val (.long q1), .second] [(.ref r0)]))
  refine own_go (fun _ k => XS.lloadN X1.here hx rfl (hb hby d1_5) rfl k) ?_
  show own_Fin _ _ _ _ _ _ _ (T1.setTop (mkF m 6 #[.val (.ref r0), .val (.long q1), .second] [(.long q1), (.ref r0)]))
  obtain ⟨T2, h2, X2, e2, W2, st2⟩ := putF X1 hx hZ hown (host := "") (Or.inl (hw _ (List.mem_of_getElem? (i := 9) rfl))) Via.refl e1 F_state_r0_0 E_r0_0 (Or.inl (hw _ (List.mem_of_getElem? (i := 10) rfl))) (hw _ (List.mem_of_getElem? (i := 1) rfl)) (ty := .long) (by decide) rfl rfl (g := (mkF m 6 #[.val (.ref r0), .val (.long q1), .second] [(.long q1), (.ref r0)])) rfl rfl (hb hby d1_6)
  have E_r0_2 := E_r0_0.wr W2
  have K2 := K0.wr W2 (Or.inl (List.mem_of_getElem? (i := 0) rfl))
  have N2 := Fr.snoc X2 N0 ge_r0
  have Z2 : n0 ≤ h2.size := Nat.le_trans Z0 (Keep.of_wr W2).1
  have F_state_r0_2 := F_state_r0_0.same W2
  refine own_go (fun tg k => st2 tg k) ?_
  show own_Fin _ _ _ _ _ _ _ (T2.setTop (mkF m 9 #[.val (.ref r0), .val (.long q1), .second] []))
  refine own_retV X2 hx hlk Bd.returns (hb hby d1_9) (Nat.le_of_ble_eq_true rfl) (Nat.le_of_ble_eq_true rfl) ?_
  rw [e2]
  refine ⟨rfl, N2, K2, E_r0_2, ?_⟩
  · (exact F_state_r0_2)
theorem d4_0 : decode prog_58_method_3_code 0 = .ok (.aload_n 0, 1) := by decide +kernel
theorem d4_1 : decode prog_58_method_3_code 1 = .ok (.dup, 1) := by decide +kernel
theorem d4_2 : decode prog_58_method_3_code 2 = .ok (.getfield 7, 3) := by decide +kernel
theorem d4_5 : decode prog_58_method_3_code 5 = .ok (.ldc2_w 54, 3) := by decide +kernel
theorem d4_8 : decode prog_58_method_3_code 8 = .ok (.ladd, 1) := by decide +kernel
theorem d4_9 : decode prog_58_method_3_code 9 = .ok (.putfield 7, 3) := by decide +kernel
theorem d4_12 : decode prog_58_method_3_code 12 = .ok (.aload_n 0, 1) := by decide +kernel
theorem d4_13 : decode prog_58_method_3_code 13 = .ok (.getfield 7, 3) := by decide +kernel
theorem d4_16 : decode prog_58_method_3_code 16 = .ok (.lstore_n 1, 1) := by decide +kernel
theorem d4_17 : decode prog_58_method_3_code 17 = .ok (.lload_n 1, 1) := by decide +kernel
theorem d4_18 : decode prog_58_method_3_code 18 = .ok (.lload_n 1, 1) := by decide +kernel
theorem d4_19 : decode prog_58_method_3_code 19 = .ok (.bipush 30, 2) := by decide +kernel
theorem d4_21 : decode prog_58_method_3_code 21 = .ok (.lushr, 1) := by decide +kernel
theorem d4_22 : decode prog_58_method_3_code 22 = .ok (.lxor, 1) := by decide +kernel
theorem d4_23 : decode prog_58_method_3_code 23 = .ok (.ldc2_w 56, 3) := by decide +kernel
theorem d4_26 : decode prog_58_method_3_code 26 = .ok (.lmul, 1) := by decide +kernel
theorem d4_27 : decode prog_58_method_3_code 27 = .ok (.lstore_n 1, 1) := by decide +kernel
theorem d4_28 : decode prog_58_method_3_code 28 = .ok (.lload_n 1, 1) := by decide +kernel
theorem d4_29 : decode prog_58_method_3_code 29 = .ok (.lload_n 1, 1) := by decide +kernel
theorem d4_30 : decode prog_58_method_3_code 30 = .ok (.bipush 27, 2) := by decide +kernel
theorem d4_32 : decode prog_58_method_3_code 32 = .ok (.lushr, 1) := by decide +kernel
theorem d4_33 : decode prog_58_method_3_code 33 = .ok (.lxor, 1) := by decide +kernel
theorem d4_34 : decode prog_58_method_3_code 34 = .ok (.ldc2_w 58, 3) := by decide +kernel
theorem d4_37 : decode prog_58_method_3_code 37 = .ok (.lmul, 1) := by decide +kernel
theorem d4_38 : decode prog_58_method_3_code 38 = .ok (.lstore_n 1, 1) := by decide +kernel
theorem d4_39 : decode prog_58_method_3_code 39 = .ok (.lload_n 1, 1) := by decide +kernel
theorem d4_40 : decode prog_58_method_3_code 40 = .ok (.lload_n 1, 1) := by decide +kernel
theorem d4_41 : decode prog_58_method_3_code 41 = .ok (.bipush 31, 2) := by decide +kernel
theorem d4_43 : decode prog_58_method_3_code 43 = .ok (.lushr, 1) := by decide +kernel
theorem d4_44 : decode prog_58_method_3_code 44 = .ok (.lxor, 1) := by decide +kernel
theorem d4_45 : decode prog_58_method_3_code 45 = .ok (.lreturn, 1) := by decide +kernel
theorem pn_4 : plainName "com/example/cordon/cordon/Rng" = true := by first | (simp [plainName, overriddenIn]; done) | decide +kernel
theorem ef_4 (m : MethodId) (r0 : Addr) : entryFrame m #[(.ref r0)] 3 = mkF m 0 #[.val (.ref r0), .unset, .unset] [] := by first | (simp [entryFrame, mkF, argsToLocals, Value.category]; done) | rfl
def rm4_room : Room := { frames := 0, cells := 0, slots := 0, locals := 0 }
def own_f4 (x1 : Int64) : Int64 := let z4 := (x1 + (-7046029254386353131 : Int64)); let z5 := ((z4 ^^^ (own_lushr z4 (30 : Int32))) * (-4658895280553007687 : Int64)); let z6 := ((z5 ^^^ (own_lushr z5 (27 : Int32))) * (-7723592293110705685 : Int64)); (z6 ^^^ (own_lushr z6 (31 : Int32)))
def Qrm4 (Z : State) (r0 : Addr) (x1 : Int64) (h0 : Heap) (n0 : Nat) (v : Option Value) (h : Heap) (L : List Loc) : Prop := v = some (.long (own_f4 x1)) ∧ Fr n0 L ∧ Keep h0 h [r0] ∧ Exa Z h r0 "com/example/cordon/cordon/Rng" ∧ Fld Z h r0 "com/example/cordon/cordon/Rng" "state" "J" (.long (x1 + (-7046029254386353131 : Int64)))
theorem own_lf_own_f4_1 {x1 : Int64} {z4 : Int64} {z5 : Int64} {z6 : Int64} (hz4 : (x1 + (-7046029254386353131 : Int64)) = z4) (hz5 : ((z4 ^^^ (own_lushr z4 (30 : Int32))) * (-4658895280553007687 : Int64)) = z5) (hz6 : ((z5 ^^^ (own_lushr z5 (27 : Int32))) * (-7723592293110705685 : Int64)) = z6) : (some (.long (z6 ^^^ (own_lushr z6 (31 : Int32)))) : Option Value) = some (.long (own_f4 x1)) := by
  subst hz6
  subst hz5
  subst hz4
  first | rfl | (simp only [own_f4]; done) | (simp only [own_f4]; rfl)
set_option maxRecDepth 65536 in
set_option maxHeartbeats 40000000 in
theorem rm4 (l : Launch) (Z : State) (a0 : Array Value) (hw : ∀ d ∈ tables_1, d.before a0 Z = true) (ws : List Jvm.Cond) (r0 : Addr) (x1 : Int64) (h0 : Heap) (n0 : Nat) (Z0 : n0 ≤ h0.size) (E_r0_0 : Exa Z h0 r0 "com/example/cordon/cordon/Rng") (F_state_r0_0 : Fld Z h0 r0 "com/example/cordon/cordon/Rng" "state" "J" (.long x1)) (ge_r0 : n0 ≤ r0) :
    MetFree l (⟨"com/example/cordon/cordon/Rng", "nextLong", "()J"⟩ : MethodName) (head1 (Jvm.Cond.code (⟨"com/example/cordon/cordon/Rng", "nextLong", "()J"⟩ : MethodName) prog_58_method_3_code 3 (some .long) :: ws) rm4_room) (fun a U => a = #[(.ref r0)] ∧ Z.Warmed39 U.vm ∧ U.heap = h0) (fun _ _ _ _ _ => True) (fun _ U o U' => ∃ v L, o = .returned v ∧ Qrm4 Z r0 x1 h0 n0 v U'.heap L ∧ FrameEnd U o U' L rm4_room.cells rm4_room.slots) := by
  refine MetFree.of_bodySF (plainFor_of_name pn_4) hisR ?_
  intro p e s m args below meth c s₁ Bd hml0 hP hK
  obtain ⟨rfl, hZ, hh⟩ := hP
  have hx := Bd.exec
  have hby := Bd.bytes
  have hml : c.maxLocals = 3 := hml0
  have hown : s.vm.findClass "com/example/cordon/cordon/Rng" = some m.cls := findClass_of_methodNamed Bd.named
  have hnm := (name_of_methodNamed Bd.named Bd.method).1
  have hlk : meth.locks = false := BodyLoose.notSynchronized Bd
  have X0 : Stand p l e rm4_room s m #[(.ref r0)] below meth c s₁ [] 0 0 := Stand.of_body Bd
  have e0 : s₁.heap = h0 := by rw [← hh, Bd.state]; rfl
  have N0 := Fr.nil n0
  show own_Fin p.tables e below s (Qrm4 Z r0 x1 h0 n0) rm4_room.cells rm4_room.slots (s₁.setTop (entryFrame m #[(.ref r0)] 3))
  rw [ef_4]
  show own_Fin _ _ _ _ _ _ _ (s₁.setTop (mkF m 0 #[.val (.ref r0), .unset, .unset] []))
  have K0 := Keep.refl h0 [r0]
  refine own_go (fun _ k => XS.aloadN X0.here hx rfl (hb hby d4_0) rfl rfl k) ?_
  show own_Fin _ _ _ _ _ _ _ (s₁.setTop (mkF m 1 #[.val (.ref r0), .unset, .unset] [(.ref r0)]))
  refine own_go (fun _ k => XS.dup X0.here hx rfl (hb hby d4_1) rfl rfl k) ?_
  show own_Fin _ _ _ _ _ _ _ (s₁.setTop (mkF m 2 #[.val (.ref r0), .unset, .unset] [(.ref r0), (.ref r0)]))
  obtain ⟨T1, X1, e1, st1⟩ := getF X0 hx hZ hown (host := "") (Or.inl (hw _ (List.mem_of_getElem? (i := 9) rfl))) Via.refl e0 F_state_r0_0 (g := (mkF m 2 #[.val (.ref r0), .unset, .unset] [(.ref r0), (.ref r0)])) rfl rfl (hb hby d4_2)
  refine own_go (fun tg k => st1 tg k) ?_
  show own_Fin _ _ _ _ _ _ _ (T1.setTop (mkF m 5 #[.val (.ref r0), .unset, .unset] [(.long x1), (.ref r0)]))
  refine own_go (fun _ k => X1.ldc2Long hx hown (mvT hZ (hw _ (List.mem_of_getElem? (i := 22) rfl))) (g := (mkF m 5 #[.val (.ref r0), .unset, .unset] [(.long x1), (.ref r0)])) rfl (hb hby d4_5) _ k) ?_
  show own_Fin _ _ _ _ _ _ _ (T1.setTop (mkF m 8 #[.val (.ref r0), .unset, .unset] [(.long (-7046029254386353131 : Int64)), (.long x1), (.ref r0)]))
  refine own_go (fun _ k => XS.ladd X1.here hx rfl (hb hby d4_8) rfl k) ?_
  show own_Fin _ _ _ _ _ _ _ (T1.setTop (mkF m 9 #[.val (.ref r0), .unset, .unset] [(.long (x1 + (-7046029254386353131 : Int64))), (.ref r0)]))
  obtain ⟨T2, h2, X2, e2, W2, st2⟩ := putF X1 hx hZ hown (host := "") (Or.inl (hw _ (List.mem_of_getElem? (i := 9) rfl))) Via.refl e1 F_state_r0_0 E_r0_0 (Or.inl (hw _ (List.mem_of_getElem? (i := 10) rfl))) (hw _ (List.mem_of_getElem? (i := 1) rfl)) (ty := .long) (by decide) rfl rfl (g := (mkF m 9 #[.val (.ref r0), .unset, .unset] [(.long (x1 + (-7046029254386353131 : Int64))), (.ref r0)])) rfl rfl (hb hby d4_9)
  have E_r0_2 := E_r0_0.wr W2
  have K2 := K0.wr W2 (Or.inl (List.mem_of_getElem? (i := 0) rfl))
  have N2 := Fr.snoc X2 N0 ge_r0
  have Z2 : n0 ≤ h2.size := Nat.le_trans Z0 (Keep.of_wr W2).1
  have F_state_r0_2 := F_state_r0_0.same W2
  refine own_go (fun tg k => st2 tg k) ?_
  show own_Fin _ _ _ _ _ _ _ (T2.setTop (mkF m 12 #[.val (.ref r0), .unset, .unset] []))
  refine own_go (fun _ k => XS.aloadN X2.here hx rfl (hb hby d4_12) rfl rfl k) ?_
  show own_Fin _ _ _ _ _ _ _ (T2.setTop (mkF m 13 #[.val (.ref r0), .unset, .unset] [(.ref r0)]))
  obtain ⟨T3, X3, e3, st3⟩ := getF X2 hx hZ hown (host := "") (Or.inl (hw _ (List.mem_of_getElem? (i := 9) rfl))) Via.refl e2 F_state_r0_2 (g := (mkF m 13 #[.val (.ref r0), .unset, .unset] [(.ref r0)])) rfl rfl (hb hby d4_13)
  refine own_go (fun tg k => st3 tg k) ?_
  show own_Fin _ _ _ _ _ _ _ (T3.setTop (mkF m 16 #[.val (.ref r0), .unset, .unset] [(.long (x1 + (-7046029254386353131 : Int64)))]))
  refine own_go (fun _ k => XS.lstoreN X3.here hx rfl (hb hby d4_16) rfl (l' := #[.val (.ref r0), .val (.long (x1 + (-7046029254386353131 : Int64))), .second]) rfl k) ?_
  show own_Fin _ _ _ _ _ _ _ (T3.setTop (mkF m 17 #[.val (.ref r0), .val (.long (x1 + (-7046029254386353131 : Int64))), .second] []))
  generalize hz4 : (x1 + (-7046029254386353131 : Int64)) = z4
  show own_Fin _ _ _ _ _ _ _ (T3.setTop (mkF m 17 #[.val (.ref r0), .val (.long z4), .second] []))
  refine own_go (fun _ k => XS.lloadN X3.here hx rfl (hb hby d4_17) rfl k) ?_
  show own_Fin _ _ _ _ _ _ _ (T3.setTop (mkF m 18 #[.val (.ref r0), .val (.long z4), .second] [(.long z4)]))
  refine own_go (fun _ k => XS.lloadN X3.here hx rfl (hb hby d4_18) rfl k) ?_
  show own_Fin _ _ _ _ _ _ _ (T3.setTop (mkF m 19 #[.val (.ref r0), .val (.long z4), .second] [(.long z4), (.long z4)]))
  refine own_go (fun _ k => XS.bipush X3.here hx rfl (hb hby d4_19) k) ?_
  show own_Fin _ _ _ _ _ _ _ (T3.setTop (mkF m 21 #[.val (.ref r0), .val (.long z4), .second] [(.int (30 : Int32)), (.long z4), (.long z4)]))
  refine own_go (fun _ k => XS.lushr X3.here hx rfl (hb hby d4_21) rfl k) ?_
  show own_Fin _ _ _ _ _ _ _ (T3.setTop (mkF m 22 #[.val (.ref r0), .val (.long z4), .second] [(.long (own_lushr z4 (30 : Int32))), (.long z4)]))
  refine own_go (fun _ k => XS.lxor X3.here hx rfl (hb hby d4_22) rfl k) ?_
  show own_Fin _ _ _ _ _ _ _ (T3.setTop (mkF m 23 #[.val (.ref r0), .val (.long z4), .second] [(.long (z4 ^^^ (own_lushr z4 (30 : Int32))))]))
  refine own_go (fun _ k => X3.ldc2Long hx hown (mvT hZ (hw _ (List.mem_of_getElem? (i := 23) rfl))) (g := (mkF m 23 #[.val (.ref r0), .val (.long z4), .second] [(.long (z4 ^^^ (own_lushr z4 (30 : Int32))))])) rfl (hb hby d4_23) _ k) ?_
  show own_Fin _ _ _ _ _ _ _ (T3.setTop (mkF m 26 #[.val (.ref r0), .val (.long z4), .second] [(.long (-4658895280553007687 : Int64)), (.long (z4 ^^^ (own_lushr z4 (30 : Int32))))]))
  refine own_go (fun _ k => XS.lmul X3.here hx rfl (hb hby d4_26) rfl k) ?_
  show own_Fin _ _ _ _ _ _ _ (T3.setTop (mkF m 27 #[.val (.ref r0), .val (.long z4), .second] [(.long ((z4 ^^^ (own_lushr z4 (30 : Int32))) * (-4658895280553007687 : Int64)))]))
  refine own_go (fun _ k => XS.lstoreN X3.here hx rfl (hb hby d4_27) rfl (l' := #[.val (.ref r0), .val (.long ((z4 ^^^ (own_lushr z4 (30 : Int32))) * (-4658895280553007687 : Int64))), .second]) rfl k) ?_
  show own_Fin _ _ _ _ _ _ _ (T3.setTop (mkF m 28 #[.val (.ref r0), .val (.long ((z4 ^^^ (own_lushr z4 (30 : Int32))) * (-4658895280553007687 : Int64))), .second] []))
  generalize hz5 : ((z4 ^^^ (own_lushr z4 (30 : Int32))) * (-4658895280553007687 : Int64)) = z5
  show own_Fin _ _ _ _ _ _ _ (T3.setTop (mkF m 28 #[.val (.ref r0), .val (.long z5), .second] []))
  refine own_go (fun _ k => XS.lloadN X3.here hx rfl (hb hby d4_28) rfl k) ?_
  show own_Fin _ _ _ _ _ _ _ (T3.setTop (mkF m 29 #[.val (.ref r0), .val (.long z5), .second] [(.long z5)]))
  refine own_go (fun _ k => XS.lloadN X3.here hx rfl (hb hby d4_29) rfl k) ?_
  show own_Fin _ _ _ _ _ _ _ (T3.setTop (mkF m 30 #[.val (.ref r0), .val (.long z5), .second] [(.long z5), (.long z5)]))
  refine own_go (fun _ k => XS.bipush X3.here hx rfl (hb hby d4_30) k) ?_
  show own_Fin _ _ _ _ _ _ _ (T3.setTop (mkF m 32 #[.val (.ref r0), .val (.long z5), .second] [(.int (27 : Int32)), (.long z5), (.long z5)]))
  refine own_go (fun _ k => XS.lushr X3.here hx rfl (hb hby d4_32) rfl k) ?_
  show own_Fin _ _ _ _ _ _ _ (T3.setTop (mkF m 33 #[.val (.ref r0), .val (.long z5), .second] [(.long (own_lushr z5 (27 : Int32))), (.long z5)]))
  refine own_go (fun _ k => XS.lxor X3.here hx rfl (hb hby d4_33) rfl k) ?_
  show own_Fin _ _ _ _ _ _ _ (T3.setTop (mkF m 34 #[.val (.ref r0), .val (.long z5), .second] [(.long (z5 ^^^ (own_lushr z5 (27 : Int32))))]))
  refine own_go (fun _ k => X3.ldc2Long hx hown (mvT hZ (hw _ (List.mem_of_getElem? (i := 24) rfl))) (g := (mkF m 34 #[.val (.ref r0), .val (.long z5), .second] [(.long (z5 ^^^ (own_lushr z5 (27 : Int32))))])) rfl (hb hby d4_34) _ k) ?_
  show own_Fin _ _ _ _ _ _ _ (T3.setTop (mkF m 37 #[.val (.ref r0), .val (.long z5), .second] [(.long (-7723592293110705685 : Int64)), (.long (z5 ^^^ (own_lushr z5 (27 : Int32))))]))
  refine own_go (fun _ k => XS.lmul X3.here hx rfl (hb hby d4_37) rfl k) ?_
  show own_Fin _ _ _ _ _ _ _ (T3.setTop (mkF m 38 #[.val (.ref r0), .val (.long z5), .second] [(.long ((z5 ^^^ (own_lushr z5 (27 : Int32))) * (-7723592293110705685 : Int64)))]))
  refine own_go (fun _ k => XS.lstoreN X3.here hx rfl (hb hby d4_38) rfl (l' := #[.val (.ref r0), .val (.long ((z5 ^^^ (own_lushr z5 (27 : Int32))) * (-7723592293110705685 : Int64))), .second]) rfl k) ?_
  show own_Fin _ _ _ _ _ _ _ (T3.setTop (mkF m 39 #[.val (.ref r0), .val (.long ((z5 ^^^ (own_lushr z5 (27 : Int32))) * (-7723592293110705685 : Int64))), .second] []))
  generalize hz6 : ((z5 ^^^ (own_lushr z5 (27 : Int32))) * (-7723592293110705685 : Int64)) = z6
  show own_Fin _ _ _ _ _ _ _ (T3.setTop (mkF m 39 #[.val (.ref r0), .val (.long z6), .second] []))
  refine own_go (fun _ k => XS.lloadN X3.here hx rfl (hb hby d4_39) rfl k) ?_
  show own_Fin _ _ _ _ _ _ _ (T3.setTop (mkF m 40 #[.val (.ref r0), .val (.long z6), .second] [(.long z6)]))
  refine own_go (fun _ k => XS.lloadN X3.here hx rfl (hb hby d4_40) rfl k) ?_
  show own_Fin _ _ _ _ _ _ _ (T3.setTop (mkF m 41 #[.val (.ref r0), .val (.long z6), .second] [(.long z6), (.long z6)]))
  refine own_go (fun _ k => XS.bipush X3.here hx rfl (hb hby d4_41) k) ?_
  show own_Fin _ _ _ _ _ _ _ (T3.setTop (mkF m 43 #[.val (.ref r0), .val (.long z6), .second] [(.int (31 : Int32)), (.long z6), (.long z6)]))
  refine own_go (fun _ k => XS.lushr X3.here hx rfl (hb hby d4_43) rfl k) ?_
  show own_Fin _ _ _ _ _ _ _ (T3.setTop (mkF m 44 #[.val (.ref r0), .val (.long z6), .second] [(.long (own_lushr z6 (31 : Int32))), (.long z6)]))
  refine own_go (fun _ k => XS.lxor X3.here hx rfl (hb hby d4_44) rfl k) ?_
  show own_Fin _ _ _ _ _ _ _ (T3.setTop (mkF m 45 #[.val (.ref r0), .val (.long z6), .second] [(.long (z6 ^^^ (own_lushr z6 (31 : Int32))))]))
  refine own_ret X3 hx hlk Bd.returns rfl (Or.inr (Or.inl ⟨rfl, rfl, _, rfl⟩)) (hb hby d4_45) (Nat.le_of_ble_eq_true rfl) (Nat.le_of_ble_eq_true rfl) ?_
  rw [e3]
  refine ⟨(own_lf_own_f4_1 (x1 := x1) hz4 hz5 hz6), N2, K2, E_r0_2, ?_⟩
  all_goals try subst hz6
  all_goals try subst hz5
  all_goals try subst hz4
  · (exact F_state_r0_2)
def own_lim (b : Int32) : Int64 := ((((9223372036854775807 : Int64) % (b.toInt64)) + (1 : Int64)) % (b.toInt64))
def own_rej (st : Int64) (b : Int32) : Prop := ((9223372036854775807 : Int64) - own_lim b) < (own_lushr (own_f4 st) (1 : Int32))
instance (st : Int64) (b : Int32) : Decidable (own_rej st b) := inferInstanceAs (Decidable (_ < _))
/-- how many steps there are till the state is 0 -/
def own_t (x : Int64) : Nat := (-x * (-1018231460777725123 : Int64)).toBitVec.toNat
def own_M (st : Int64) : Nat := own_t (st + (-7046029254386353131 : Int64))
def own_bel (b : Int32) : Nat → Int64 → Int32 × Int64
  | 0, st => (0, st)
  | k + 1, st => if own_rej st b then own_bel b k (st + (-7046029254386353131 : Int64)) else (((own_lushr (own_f4 st) (1 : Int32)) % (b.toInt64)).toInt32, st + (-7046029254386353131 : Int64))
def own_belE (st : Int64) (b : Int32) : Int32 × Int64 := own_bel b (own_M st + 1) st
theorem own_rot (x : Int64) : own_t x = 0 → x = 0 := by
  intro h
  have e : (-x * (-1018231460777725123 : Int64)) = 0 := by
    apply Int64.toBitVec_inj.mp
    apply BitVec.eq_of_toNat_eq
    exact h
  have e2 : (-x * (-1018231460777725123 : Int64)) * (-7046029254386353131 : Int64) = -x := by
    rw [Int64.mul_assoc, show (-1018231460777725123 : Int64) * (-7046029254386353131 : Int64) = 1 from by decide +kernel, Int64.mul_one]
  rw [e, Int64.zero_mul] at e2
  have e3 : - -x = -0 := by rw [← e2]
  rw [Int64.neg_neg] at e3
  exact e3
theorem own_dec1 (x : Int64) (h : x ≠ 0) : own_t x = own_t (x + (-7046029254386353131 : Int64)) + 1 := by
  have e : -x * (-1018231460777725123 : Int64) = -(x + (-7046029254386353131 : Int64)) * (-1018231460777725123 : Int64) + 1 := by
    have q : (-7046029254386353131 : Int64) * (-1018231460777725123 : Int64) = 1 := by decide +kernel
    rw [Int64.neg_add, Int64.sub_mul, q, Int64.sub_add_cancel]
  have n : own_t x ≠ 0 := fun q => h (own_rot x q)
  have e2 : (-x * (-1018231460777725123 : Int64)).toBitVec = (-(x + (-7046029254386353131 : Int64)) * (-1018231460777725123 : Int64)).toBitVec + 1#64 := by rw [e]; rfl
  have e3 := congrArg BitVec.toNat e2
  rw [BitVec.toNat_add] at e3
  have e4 : own_t x = (own_t (x + (-7046029254386353131 : Int64)) + 1) % 2 ^ 64 := e3
  have l : own_t (x + (-7046029254386353131 : Int64)) < 2 ^ 64 := BitVec.isLt _
  generalize own_t x = u at *
  generalize own_t (x + (-7046029254386353131 : Int64)) = w at *
  omega
theorem own_limv (b : Int32) (hb : 0 < b.toInt) : (own_lim b).toInt = (9223372036854775808 : Int) % b.toInt := by
  have hc := c_i2l b
  have r0 := rng32 b
  have m : (9223372036854775807 : Int64).toInt = 9223372036854775807 := by decide
  have d1 := (c_lrem 9223372036854775807 b.toInt64 b.toInt hc).1 (by rw [m]; decide)
  rw [lrem_mod, m] at d1
  have p1 := Int.emod_nonneg 9223372036854775807 (show b.toInt ≠ 0 by omega)
  have p2 := Int.emod_lt_of_pos 9223372036854775807 hb
  have a := c_ladd ((9223372036854775807 : Int64) % b.toInt64) 1
  have r := rng64 ((9223372036854775807 : Int64) % b.toInt64 + 1)
  rw [show (1 : Int64).toInt = 1 from by decide] at a
  have e : ((9223372036854775807 : Int64) % b.toInt64 + 1).toInt = 9223372036854775807 % b.toInt + 1 := by omega
  have d2 := (c_lrem ((9223372036854775807 : Int64) % b.toInt64 + 1) b.toInt64 b.toInt hc).1 (by omega)
  rw [lrem_mod, e, Int.emod_add_emod] at d2
  exact d2
theorem own_rejv (st : Int64) (b : Int32) (hb : 0 < b.toInt) : own_rej st b ↔ (9223372036854775808 : Int) - 9223372036854775808 % b.toInt ≤ (own_lushr (own_f4 st) (1 : Int32)).toInt := by
  have l := own_limv b hb
  have p1 := Int.emod_nonneg 9223372036854775808 (show b.toInt ≠ 0 by omega)
  have p2 := Int.emod_lt_of_pos 9223372036854775808 hb
  have r0 := rng32 b
  have s := c_lsub 9223372036854775807 (own_lim b)
  have r := rng64 (9223372036854775807 - own_lim b)
  rw [show (9223372036854775807 : Int64).toInt = 9223372036854775807 from by decide] at s
  unfold own_rej
  rw [Int64.lt_iff_toInt_lt]
  omega
theorem own_step (st : Int64) (b : Int32) (hb : (0 : Int32) < b) (h : own_rej st b) : own_M st = own_M (st + (-7046029254386353131 : Int64)) + 1 := by
  have hb' : 0 < b.toInt := by rw [Int32.lt_iff_toInt_lt, show (0 : Int32).toInt = 0 from by decide] at hb; exact hb
  have n : st + (-7046029254386353131 : Int64) ≠ 0 := by
    intro q
    rw [own_rejv st b hb'] at h
    have z : own_f4 st = 0 := by
      have : own_f4 st = own_f4 (0 - (-7046029254386353131 : Int64)) := by rw [← q, Int64.add_sub_cancel]
      rw [this]; decide +kernel
    rw [z, show (own_lushr 0 1).toInt = 0 from by decide] at h
    have p2 := Int.emod_lt_of_pos 9223372036854775808 hb'
    have r0 := rng32 b
    omega
  exact own_dec1 _ n

theorem own_bels (b : Int32) (k : Nat) (st : Int64) : own_bel b (k + 1) st = if own_rej st b then own_bel b k (st + (-7046029254386353131 : Int64)) else (((own_lushr (own_f4 st) (1 : Int32)) % (b.toInt64)).toInt32, st + (-7046029254386353131 : Int64)) := rfl
theorem own_bel1 {st : Int64} {b : Int32} (hb : (0 : Int32) < b) (h : own_rej st b) : own_belE st b = own_belE (st + (-7046029254386353131 : Int64)) b := by
  have e := own_step st b hb h
  unfold own_belE
  generalize own_M st = m at *
  generalize own_M (st + (-7046029254386353131 : Int64)) = m' at *
  subst e
  rw [own_bels, if_pos h]
theorem own_bel0 {st : Int64} {b : Int32} (h : ¬ own_rej st b) : own_belE st b = (((own_lushr (own_f4 st) (1 : Int32)) % (b.toInt64)).toInt32, st + (-7046029254386353131 : Int64)) := by
  unfold own_belE
  rw [own_bels, if_neg h]
theorem own_bnz {b : Int32} (hb : (0 : Int32) < b) : b.toInt64 ≠ 0 := by
  intro h
  have := congrArg Int64.toInt h
  rw [c_i2l, show (0 : Int64).toInt = 0 from by decide] at this
  rw [Int32.lt_iff_toInt_lt, show (0 : Int32).toInt = 0 from by decide] at hb
  omega
theorem own_pd39 : parseMethodDescriptor "()J" = some ⟨[], some .long⟩ := by decide +kernel
theorem d3_0 : decode prog_58_method_4_code 0 = .ok (.iload_n 1, 1) := by decide +kernel
theorem d3_1 : decode prog_58_method_4_code 1 = .ok (.ifCond .gt 17, 3) := by decide +kernel
theorem d3_18 : decode prog_58_method_4_code 18 = .ok (.ldc2_w 69, 3) := by decide +kernel
theorem d3_21 : decode prog_58_method_4_code 21 = .ok (.iload_n 1, 1) := by decide +kernel
theorem d3_22 : decode prog_58_method_4_code 22 = .ok (.i2l, 1) := by decide +kernel
theorem d3_23 : decode prog_58_method_4_code 23 = .ok (.lrem, 1) := by decide +kernel
theorem d3_24 : decode prog_58_method_4_code 24 = .ok (.lconst 1, 1) := by decide +kernel
theorem d3_25 : decode prog_58_method_4_code 25 = .ok (.ladd, 1) := by decide +kernel
theorem d3_26 : decode prog_58_method_4_code 26 = .ok (.iload_n 1, 1) := by decide +kernel
theorem d3_27 : decode prog_58_method_4_code 27 = .ok (.i2l, 1) := by decide +kernel
theorem d3_28 : decode prog_58_method_4_code 28 = .ok (.lrem, 1) := by decide +kernel
theorem d3_29 : decode prog_58_method_4_code 29 = .ok (.lstore_n 2, 1) := by decide +kernel
theorem d3_30 : decode prog_58_method_4_code 30 = .ok (.aload_n 0, 1) := by decide +kernel
theorem d3_31 : decode prog_58_method_4_code 31 = .ok (.invokevirtual 71, 3) := by decide +kernel
theorem d3_34 : decode prog_58_method_4_code 34 = .ok (.iconst 1, 1) := by decide +kernel
theorem d3_35 : decode prog_58_method_4_code 35 = .ok (.lushr, 1) := by decide +kernel
theorem d3_36 : decode prog_58_method_4_code 36 = .ok (.lstore 4, 2) := by decide +kernel
theorem d3_38 : decode prog_58_method_4_code 38 = .ok (.lload 4, 2) := by decide +kernel
theorem d3_40 : decode prog_58_method_4_code 40 = .ok (.ldc2_w 69, 3) := by decide +kernel
theorem d3_43 : decode prog_58_method_4_code 43 = .ok (.lload_n 2, 1) := by decide +kernel
theorem d3_44 : decode prog_58_method_4_code 44 = .ok (.lsub, 1) := by decide +kernel
theorem d3_45 : decode prog_58_method_4_code 45 = .ok (.lcmp, 1) := by decide +kernel
theorem d3_46 : decode prog_58_method_4_code 46 = .ok (.ifCond .gt 10, 3) := by decide +kernel
theorem d3_49 : decode prog_58_method_4_code 49 = .ok (.lload 4, 2) := by decide +kernel
theorem d3_51 : decode prog_58_method_4_code 51 = .ok (.iload_n 1, 1) := by decide +kernel
theorem d3_52 : decode prog_58_method_4_code 52 = .ok (.i2l, 1) := by decide +kernel
theorem d3_53 : decode prog_58_method_4_code 53 = .ok (.lrem, 1) := by decide +kernel
theorem d3_54 : decode prog_58_method_4_code 54 = .ok (.l2i, 1) := by decide +kernel
theorem d3_55 : decode prog_58_method_4_code 55 = .ok (.ireturn, 1) := by decide +kernel
theorem d3_56 : decode prog_58_method_4_code 56 = .ok (.goto (-26), 3) := by decide +kernel
theorem pn_3 : plainName "com/example/cordon/cordon/Rng" = true := by first | (simp [plainName, overriddenIn]; done) | decide +kernel
theorem ef_3 (m : MethodId) (r0 : Addr) (p1 : Int32) : entryFrame m #[(.ref r0), (.int p1)] 6 = mkF m 0 #[.val (.ref r0), .val (.int p1), .unset, .unset, .unset, .unset] [] := by first | (simp [entryFrame, mkF, argsToLocals, Value.category]; done) | rfl
def rm3_room : Room := { frames := 1, cells := 0, slots := 0, locals := 14 }
def Qrm3 (Z : State) (r0 : Addr) (p1 : Int32) (x1 : Int64) (h0 : Heap) (n0 : Nat) (v : Option Value) (h : Heap) (L : List Loc) : Prop := v = some (.int ((own_belE x1 p1).1)) ∧ Fr n0 L ∧ Keep h0 h [r0] ∧ Exa Z h r0 "com/example/cordon/cordon/Rng" ∧ Fld Z h r0 "com/example/cordon/cordon/Rng" "state" "J" (.long ((own_belE x1 p1).2))
set_option maxRecDepth 65536 in
set_option maxHeartbeats 40000000 in
theorem rm3 (l : Launch) (Z : State) (a0 : Array Value) (hw : ∀ d ∈ tables_1, d.before a0 Z = true) (ws : List Jvm.Cond) (r0 : Addr) (p1 : Int32) (x1 : Int64) (h0 : Heap) (n0 : Nat) (Z0 : n0 ≤ h0.size) (E_r0_0 : Exa Z h0 r0 "com/example/cordon/cordon/Rng") (F_state_r0_0 : Fld Z h0 r0 "com/example/cordon/cordon/Rng" "state" "J" (.long x1)) (ge_r0 : n0 ≤ r0) (hp : (0 : Int32) < p1) :
    MetFree l (⟨"com/example/cordon/cordon/Rng", "below", "(I)I"⟩ : MethodName) (head1 (Jvm.Cond.code (⟨"com/example/cordon/cordon/Rng", "below", "(I)I"⟩ : MethodName) prog_58_method_4_code 6 (some .int) :: ws) rm3_room) (fun a U => a = #[(.ref r0), (.int p1)] ∧ Z.Warmed39 U.vm ∧ U.heap = h0) (fun _ _ _ _ _ => True) (fun _ U o U' => ∃ v L, o = .returned v ∧ Qrm3 Z r0 p1 x1 h0 n0 v U'.heap L ∧ FrameEnd U o U' L rm3_room.cells rm3_room.slots) := by
  refine MetFree.of_bodySF (plainFor_of_name pn_3) hisR ?_
  intro p e s m args below meth c s₁ Bd hml0 hP hK
  obtain ⟨rfl, hZ, hh⟩ := hP
  have hx := Bd.exec
  have hby := Bd.bytes
  have hml : c.maxLocals = 6 := hml0
  have hown : s.vm.findClass "com/example/cordon/cordon/Rng" = some m.cls := findClass_of_methodNamed Bd.named
  have hnm := (name_of_methodNamed Bd.named Bd.method).1
  have hlk : meth.locks = false := BodyLoose.notSynchronized Bd
  have X0 : Stand p l e rm3_room s m #[(.ref r0), (.int p1)] below meth c s₁ [] 0 0 := Stand.of_body Bd
  have e0 : s₁.heap = h0 := by rw [← hh, Bd.state]; rfl
  have N0 := Fr.nil n0
  show own_Fin p.tables e below s (Qrm3 Z r0 p1 x1 h0 n0) rm3_room.cells rm3_room.slots (s₁.setTop (entryFrame m #[(.ref r0), (.int p1)] 6))
  rw [ef_3]
  show own_Fin _ _ _ _ _ _ _ (s₁.setTop (mkF m 0 #[.val (.ref r0), .val (.int p1), .unset, .unset, .unset, .unset] []))
  have K0 := Keep.refl h0 [r0]
  refine own_go (fun _ k => XS.iloadN X0.here hx rfl (hb hby d3_0) rfl k) ?_
  show own_Fin _ _ _ _ _ _ _ (s₁.setTop (mkF m 1 #[.val (.ref r0), .val (.int p1), .unset, .unset, .unset, .unset] [(.int p1)]))
  have hc1 : (0 : Int32) < p1 := hp
  refine own_go (fun _ k => XS.ifYes X0.here hx rfl (pc0 := 1) (pc' := 18) rfl (hb hby d3_1) rfl ((if0 _ _).trans (tlt hc1).2.2.1) (by decide) (by decide) k) ?_
  show own_Fin _ _ _ _ _ _ _ (s₁.setTop (mkF m 18 #[.val (.ref r0), .val (.int p1), .unset, .unset, .unset, .unset] []))
  refine own_go (fun _ k => X0.ldc2Long hx hown (mvT hZ (hw _ (List.mem_of_getElem? (i := 16) rfl))) (g := (mkF m 18 #[.val (.ref r0), .val (.int p1), .unset, .unset, .unset, .unset] [])) rfl (hb hby d3_18) _ k) ?_
  show own_Fin _ _ _ _ _ _ _ (s₁.setTop (mkF m 21 #[.val (.ref r0), .val (.int p1), .unset, .unset, .unset, .unset] [(.long (9223372036854775807 : Int64))]))
  refine own_go (fun _ k => XS.iloadN X0.here hx rfl (hb hby d3_21) rfl k) ?_
  show own_Fin _ _ _ _ _ _ _ (s₁.setTop (mkF m 22 #[.val (.ref r0), .val (.int p1), .unset, .unset, .unset, .unset] [(.int p1), (.long (9223372036854775807 : Int64))]))
  refine own_go (fun _ k => XS.i2l X0.here hx rfl (hb hby d3_22) rfl k) ?_
  show own_Fin _ _ _ _ _ _ _ (s₁.setTop (mkF m 23 #[.val (.ref r0), .val (.int p1), .unset, .unset, .unset, .unset] [(.long (p1.toInt64)), (.long (9223372036854775807 : Int64))]))
  refine own_go (fun _ k => own_lrem X0.here hx rfl (hb hby d3_23) rfl (own_bnz hp) k) ?_
  show own_Fin _ _ _ _ _ _ _ (s₁.setTop (mkF m 24 #[.val (.ref r0), .val (.int p1), .unset, .unset, .unset, .unset] [(.long ((9223372036854775807 : Int64) % (p1.toInt64)))]))
  refine own_go (fun _ k => XS.lconst X0.here hx rfl (hb hby d3_24) k) ?_
  show own_Fin _ _ _ _ _ _ _ (s₁.setTop (mkF m 25 #[.val (.ref r0), .val (.int p1), .unset, .unset, .unset, .unset] [(.long (1 : Int64)), (.long ((9223372036854775807 : Int64) % (p1.toInt64)))]))
  refine own_go (fun _ k => XS.ladd X0.here hx rfl (hb hby d3_25) rfl k) ?_
  show own_Fin _ _ _ _ _ _ _ (s₁.setTop (mkF m 26 #[.val (.ref r0), .val (.int p1), .unset, .unset, .unset, .unset] [(.long (((9223372036854775807 : Int64) % (p1.toInt64)) + (1 : Int64)))]))
  refine own_go (fun _ k => XS.iloadN X0.here hx rfl (hb hby d3_26) rfl k) ?_
  show own_Fin _ _ _ _ _ _ _ (s₁.setTop (mkF m 27 #[.val (.ref r0), .val (.int p1), .unset, .unset, .unset, .unset] [(.int p1), (.long (((9223372036854775807 : Int64) % (p1.toInt64)) + (1 : Int64)))]))
  refine own_go (fun _ k => XS.i2l X0.here hx rfl (hb hby d3_27) rfl k) ?_
  show own_Fin _ _ _ _ _ _ _ (s₁.setTop (mkF m 28 #[.val (.ref r0), .val (.int p1), .unset, .unset, .unset, .unset] [(.long (p1.toInt64)), (.long (((9223372036854775807 : Int64) % (p1.toInt64)) + (1 : Int64)))]))
  refine own_go (fun _ k => own_lrem X0.here hx rfl (hb hby d3_28) rfl (own_bnz hp) k) ?_
  show own_Fin _ _ _ _ _ _ _ (s₁.setTop (mkF m 29 #[.val (.ref r0), .val (.int p1), .unset, .unset, .unset, .unset] [(.long ((((9223372036854775807 : Int64) % (p1.toInt64)) + (1 : Int64)) % (p1.toInt64)))]))
  refine own_go (fun _ k => XS.lstoreN X0.here hx rfl (hb hby d3_29) rfl (l' := #[.val (.ref r0), .val (.int p1), .val (.long ((((9223372036854775807 : Int64) % (p1.toInt64)) + (1 : Int64)) % (p1.toInt64))), .second, .unset, .unset]) rfl k) ?_
  show own_Fin _ _ _ _ _ _ _ (s₁.setTop (mkF m 30 #[.val (.ref r0), .val (.int p1), .val (.long ((((9223372036854775807 : Int64) % (p1.toInt64)) + (1 : Int64)) % (p1.toInt64))), .second, .unset, .unset] []))
  have loopA : ∀ (kA : Nat) (st : Int64) (j4A : Slot) (j5A : Slot) (TAL : State) (LAL : List Loc) (hAL : Heap), kA = own_M st → own_belE st p1 = own_belE x1 p1 → Stand p l e rm3_room s m #[(.ref r0), (.int p1)] below meth c TAL LAL 0 0 → Fr n0 LAL → TAL.heap = hAL → own_Two j4A j5A → n0 ≤ hAL.size → Keep h0 hAL [r0] → Exa Z hAL r0 "com/example/cordon/cordon/Rng" → Fld Z hAL r0 "com/example/cordon/cordon/Rng" "state" "J" (.long st) → own_Fin p.tables e below s (Qrm3 Z r0 p1 x1 h0 n0) rm3_room.cells rm3_room.slots (TAL.setTop (mkF m 30 #[.val (.ref r0), .val (.int p1), .val (.long ((((9223372036854775807 : Int64) % (p1.toInt64)) + (1 : Int64)) % (p1.toInt64))), .second, j4A, j5A] [])) := by
    intro kA
    induction kA using Nat.strongRecOn with
    | _ kA ihA =>
      intro st j4A j5A TAL LAL hAL hkA hinv XAL NAL eAL hj4A ZAL KAL E_r0_AL F_state_r0_AL
      show own_Fin _ _ _ _ _ _ _ (TAL.setTop (mkF m 30 #[.val (.ref r0), .val (.int p1), .val (.long ((((9223372036854775807 : Int64) % (p1.toInt64)) + (1 : Int64)) % (p1.toInt64))), .second, j4A, j5A] []))
      refine own_go (fun _ k => XS.aloadN XAL.here hx rfl (hb hby d3_30) rfl rfl k) ?_
      show own_Fin _ _ _ _ _ _ _ (TAL.setTop (mkF m 31 #[.val (.ref r0), .val (.int p1), .val (.long ((((9223372036854775807 : Int64) % (p1.toInt64)) + (1 : Int64)) % (p1.toInt64))), .second, j4A, j5A] [(.ref r0)]))
      obtain ⟨cq1, kq1, q1a, q1b, q1c⟩ := isOf hZ eAL E_r0_AL
      obtain ⟨_, _, ⟨T1, L1, k1, n1⟩, -, X1, ⟨Lc1, hQ1, l1, y1, z1⟩, st1⟩ := XAL.virtualBack hx (y := (⟨"com/example/cordon/cordon/Rng", "nextLong", "()J"⟩ : MethodName)) (z := (⟨"com/example/cordon/cordon/Rng", "nextLong", "()J"⟩ : MethodName)) hown (mvT hZ (hw _ (List.mem_of_getElem? (i := 17) rfl))) (mvT hZ (hw _ (List.mem_of_getElem? (i := 18) rfl))) (notFace_of_selects (args := #[]) (mvT hZ (hw _ (List.mem_of_getElem? (i := 20) rfl)))) (mvT hZ (hw _ (List.mem_of_getElem? (i := 20) rfl))) (mvT hZ (hw _ (List.mem_of_getElem? (i := 19) rfl))) (by decide) (backOf (W := 0) (rm4 l Z a0 hw [] r0 st hAL n0 ZAL E_r0_AL F_state_r0_AL ge_r0) hZ (hw _ (List.mem_of_getElem? (i := 21) rfl)) (hw _ (List.mem_of_getElem? (i := 2) rfl)) (by decide) (by decide)) q1a q1c (g := (mkF m 31 #[.val (.ref r0), .val (.int p1), .val (.long ((((9223372036854775807 : Int64) % (p1.toInt64)) + (1 : Int64)) % (p1.toInt64))), .second, j4A, j5A] [(.ref r0)])) rfl (by rw [hml]; rfl) (Steps.refl _) (argsL := []) (rest := []) (lenOf own_pd39 rfl) rfl (by show 2 * 0 + _ ≤ _; exact Nat.le_of_eq rfl) (hb hby d3_31) (fun _ _ => ⟨rfl, eAL, (by decide : 0 + 0 ≤ _), (by decide : 0 + 0 ≤ _)⟩)
      dsimp only [Pt.U, Pt.locs, Pt.cells, Pt.slots] at X1 l1 y1 z1 st1 hQ1
      replace y1 : 0 = k1 := y1.symm
      replace z1 : 0 = n1 := z1.symm
      subst y1 z1
      obtain ⟨rfl, N1q, Kq1, E_r0_1, F_state_r0_1⟩ := hQ1
      have N1 : Fr n0 L1 := by rw [l1]; exact Fr.app NAL N1q
      have K1 := Keep.trans KAL Kq1 (allS (Or.inl (List.mem_of_getElem? (i := 0) rfl)) all0)
      have Z1 : n0 ≤ T1.heap.size := Nat.le_trans ZAL Kq1.1
      refine own_go (fun tg k => st1.trans k) ?_
      show own_Fin _ _ _ _ _ _ _ (T1.setTop (mkF m 34 #[.val (.ref r0), .val (.int p1), .val (.long ((((9223372036854775807 : Int64) % (p1.toInt64)) + (1 : Int64)) % (p1.toInt64))), .second, j4A, j5A] [(.long (own_f4 st))]))
      refine own_go (fun _ k => XS.iconst X1.here hx rfl (hb hby d3_34) k) ?_
      show own_Fin _ _ _ _ _ _ _ (T1.setTop (mkF m 35 #[.val (.ref r0), .val (.int p1), .val (.long ((((9223372036854775807 : Int64) % (p1.toInt64)) + (1 : Int64)) % (p1.toInt64))), .second, j4A, j5A] [(.int (1 : Int32)), (.long (own_f4 st))]))
      refine own_go (fun _ k => XS.lushr X1.here hx rfl (hb hby d3_35) rfl k) ?_
      show own_Fin _ _ _ _ _ _ _ (T1.setTop (mkF m 36 #[.val (.ref r0), .val (.int p1), .val (.long ((((9223372036854775807 : Int64) % (p1.toInt64)) + (1 : Int64)) % (p1.toInt64))), .second, j4A, j5A] [(.long (own_lushr (own_f4 st) (1 : Int32)))]))
      refine own_go (fun _ k => XS.lstore X1.here hx rfl (hb hby d3_36) rfl (l' := #[.val (.ref r0), .val (.int p1), .val (.long ((((9223372036854775807 : Int64) % (p1.toInt64)) + (1 : Int64)) % (p1.toInt64))), .second, .val (.long (own_lushr (own_f4 st) (1 : Int32))), .second]) (by rcases hj4A with ⟨rfl, rfl⟩ | ⟨_, rfl, rfl⟩ <;> rfl) k) ?_
      show own_Fin _ _ _ _ _ _ _ (T1.setTop (mkF m 38 #[.val (.ref r0), .val (.int p1), .val (.long ((((9223372036854775807 : Int64) % (p1.toInt64)) + (1 : Int64)) % (p1.toInt64))), .second, .val (.long (own_lushr (own_f4 st) (1 : Int32))), .second] []))
      refine own_go (fun _ k => XS.lload X1.here hx rfl (hb hby d3_38) rfl k) ?_
      show own_Fin _ _ _ _ _ _ _ (T1.setTop (mkF m 40 #[.val (.ref r0), .val (.int p1), .val (.long ((((9223372036854775807 : Int64) % (p1.toInt64)) + (1 : Int64)) % (p1.toInt64))), .second, .val (.long (own_lushr (own_f4 st) (1 : Int32))), .second] [(.long (own_lushr (own_f4 st) (1 : Int32)))]))
      refine own_go (fun _ k => X1.ldc2Long hx hown (mvT hZ (hw _ (List.mem_of_getElem? (i := 16) rfl))) (g := (mkF m 40 #[.val (.ref r0), .val (.int p1), .val (.long ((((9223372036854775807 : Int64) % (p1.toInt64)) + (1 : Int64)) % (p1.toInt64))), .second, .val (.long (own_lushr (own_f4 st) (1 : Int32))), .second] [(.long (own_lushr (own_f4 st) (1 : Int32)))])) rfl (hb hby d3_40) _ k) ?_
      show own_Fin _ _ _ _ _ _ _ (T1.setTop (mkF m 43 #[.val (.ref r0), .val (.int p1), .val (.long ((((9223372036854775807 : Int64) % (p1.toInt64)) + (1 : Int64)) % (p1.toInt64))), .second, .val (.long (own_lushr (own_f4 st) (1 : Int32))), .second] [(.long (9223372036854775807 : Int64)), (.long (own_lushr (own_f4 st) (1 : Int32)))]))
      refine own_go (fun _ k => XS.lloadN X1.here hx rfl (hb hby d3_43) rfl k) ?_
      show own_Fin _ _ _ _ _ _ _ (T1.setTop (mkF m 44 #[.val (.ref r0), .val (.int p1), .val (.long ((((9223372036854775807 : Int64) % (p1.toInt64)) + (1 : Int64)) % (p1.toInt64))), .second, .val (.long (own_lushr (own_f4 st) (1 : Int32))), .second] [(.long ((((9223372036854775807 : Int64) % (p1.toInt64)) + (1 : Int64)) % (p1.toInt64))), (.long (9223372036854775807 : Int64)), (.long (own_lushr (own_f4 st) (1 : Int32)))]))
      refine own_go (fun _ k => XS.lsub X1.here hx rfl (hb hby d3_44) rfl k) ?_
      show own_Fin _ _ _ _ _ _ _ (T1.setTop (mkF m 45 #[.val (.ref r0), .val (.int p1), .val (.long ((((9223372036854775807 : Int64) % (p1.toInt64)) + (1 : Int64)) % (p1.toInt64))), .second, .val (.long (own_lushr (own_f4 st) (1 : Int32))), .second] [(.long ((9223372036854775807 : Int64) - ((((9223372036854775807 : Int64) % (p1.toInt64)) + (1 : Int64)) % (p1.toInt64)))), (.long (own_lushr (own_f4 st) (1 : Int32)))]))
      refine own_go (fun _ k => XS.lcmp X1.here hx rfl (hb hby d3_45) rfl k) ?_
      show own_Fin _ _ _ _ _ _ _ (T1.setTop (mkF m 46 #[.val (.ref r0), .val (.int p1), .val (.long ((((9223372036854775807 : Int64) % (p1.toInt64)) + (1 : Int64)) % (p1.toInt64))), .second, .val (.long (own_lushr (own_f4 st) (1 : Int32))), .second] [(.int (lcmpW (own_lushr (own_f4 st) (1 : Int32)) ((9223372036854775807 : Int64) - ((((9223372036854775807 : Int64) % (p1.toInt64)) + (1 : Int64)) % (p1.toInt64)))))]))
      by_cases hc2 : ((9223372036854775807 : Int64) - ((((9223372036854775807 : Int64) % (p1.toInt64)) + (1 : Int64)) % (p1.toInt64))) < (own_lushr (own_f4 st) (1 : Int32))
      · refine own_go (fun _ k => XS.ifYes X1.here hx rfl (pc0 := 46) (pc' := 56) rfl (hb hby d3_46) rfl ((if0 _ _).trans (tlt ((lw_gt _ _).mpr hc2)).2.2.1) (by decide) (by decide) k) ?_
        show own_Fin _ _ _ _ _ _ _ (T1.setTop (mkF m 56 #[.val (.ref r0), .val (.int p1), .val (.long ((((9223372036854775807 : Int64) % (p1.toInt64)) + (1 : Int64)) % (p1.toInt64))), .second, .val (.long (own_lushr (own_f4 st) (1 : Int32))), .second] []))
        refine own_go (fun _ k => XS.goto X1.here hx rfl (pc0 := 56) (pc' := 30) rfl (hb hby d3_56) (by decide) (by decide) k) ?_
        show own_Fin _ _ _ _ _ _ _ (T1.setTop (mkF m 30 #[.val (.ref r0), .val (.int p1), .val (.long ((((9223372036854775807 : Int64) % (p1.toInt64)) + (1 : Int64)) % (p1.toInt64))), .second, .val (.long (own_lushr (own_f4 st) (1 : Int32))), .second] []))
        exact ihA _ (Nat.lt_of_lt_of_eq (Nat.lt_succ_self _) ((own_step st p1 hp hc2).symm.trans hkA.symm)) (st + (-7046029254386353131 : Int64)) (.val (.long (own_lushr (own_f4 st) (1 : Int32)))) (.second) T1 _ T1.heap rfl (by rw [← hinv, own_bel1 hp hc2]) (own_mono X1 (by decide) (by decide)) N1 rfl (Or.inr ⟨_, rfl, rfl⟩) Z1 K1 E_r0_1 F_state_r0_1
      · refine own_go (fun _ k => XS.ifNo X1.here hx rfl (hb hby d3_46) rfl ((if0 _ _).trans (flt (mt (lw_gt _ _).mp hc2)).2.2.1) k) ?_
        show own_Fin _ _ _ _ _ _ _ (T1.setTop (mkF m 49 #[.val (.ref r0), .val (.int p1), .val (.long ((((9223372036854775807 : Int64) % (p1.toInt64)) + (1 : Int64)) % (p1.toInt64))), .second, .val (.long (own_lushr (own_f4 st) (1 : Int32))), .second] []))
        refine own_go (fun _ k => XS.lload X1.here hx rfl (hb hby d3_49) rfl k) ?_
        show own_Fin _ _ _ _ _ _ _ (T1.setTop (mkF m 51 #[.val (.ref r0), .val (.int p1), .val (.long ((((9223372036854775807 : Int64) % (p1.toInt64)) + (1 : Int64)) % (p1.toInt64))), .second, .val (.long (own_lushr (own_f4 st) (1 : Int32))), .second] [(.long (own_lushr (own_f4 st) (1 : Int32)))]))
        refine own_go (fun _ k => XS.iloadN X1.here hx rfl (hb hby d3_51) rfl k) ?_
        show own_Fin _ _ _ _ _ _ _ (T1.setTop (mkF m 52 #[.val (.ref r0), .val (.int p1), .val (.long ((((9223372036854775807 : Int64) % (p1.toInt64)) + (1 : Int64)) % (p1.toInt64))), .second, .val (.long (own_lushr (own_f4 st) (1 : Int32))), .second] [(.int p1), (.long (own_lushr (own_f4 st) (1 : Int32)))]))
        refine own_go (fun _ k => XS.i2l X1.here hx rfl (hb hby d3_52) rfl k) ?_
        show own_Fin _ _ _ _ _ _ _ (T1.setTop (mkF m 53 #[.val (.ref r0), .val (.int p1), .val (.long ((((9223372036854775807 : Int64) % (p1.toInt64)) + (1 : Int64)) % (p1.toInt64))), .second, .val (.long (own_lushr (own_f4 st) (1 : Int32))), .second] [(.long (p1.toInt64)), (.long (own_lushr (own_f4 st) (1 : Int32)))]))
        refine own_go (fun _ k => own_lrem X1.here hx rfl (hb hby d3_53) rfl (own_bnz hp) k) ?_
        show own_Fin _ _ _ _ _ _ _ (T1.setTop (mkF m 54 #[.val (.ref r0), .val (.int p1), .val (.long ((((9223372036854775807 : Int64) % (p1.toInt64)) + (1 : Int64)) % (p1.toInt64))), .second, .val (.long (own_lushr (own_f4 st) (1 : Int32))), .second] [(.long ((own_lushr (own_f4 st) (1 : Int32)) % (p1.toInt64)))]))
        refine own_go (fun _ k => XS.l2i X1.here hx rfl (hb hby d3_54) rfl k) ?_
        show own_Fin _ _ _ _ _ _ _ (T1.setTop (mkF m 55 #[.val (.ref r0), .val (.int p1), .val (.long ((((9223372036854775807 : Int64) % (p1.toInt64)) + (1 : Int64)) % (p1.toInt64))), .second, .val (.long (own_lushr (own_f4 st) (1 : Int32))), .second] [(.int (((own_lushr (own_f4 st) (1 : Int32)) % (p1.toInt64)).toInt32))]))
        refine own_ret X1 hx hlk Bd.returns rfl (Or.inl ⟨rfl, by simp, _, rfl⟩) (hb hby d3_55) (Nat.le_of_ble_eq_true rfl) (Nat.le_of_ble_eq_true rfl) ?_
        refine ⟨?_, N1, K1, E_r0_1, ?_⟩
        · rw [← hinv, own_bel0 hc2]
        · (rw [← hinv, own_bel0 hc2]; exact F_state_r0_1)
  exact loopA _ x1 (.unset) (.unset) s₁ _ h0 rfl rfl (own_mono X0 (by decide) (by decide)) N0 e0 (Or.inl ⟨rfl, rfl⟩) Z0 K0 E_r0_0 F_state_r0_0
theorem d5_0 : decode method_3_code 0 = .ok (.lload_n 0, 1) := by decide +kernel
theorem d5_1 : decode method_3_code 1 = .ok (.iload_n 2, 1) := by decide +kernel
theorem d5_2 : decode method_3_code 2 = .ok (.i2l, 1) := by decide +kernel
theorem d5_3 : decode method_3_code 3 = .ok (.lrem, 1) := by decide +kernel
theorem d5_4 : decode method_3_code 4 = .ok (.lstore_n 3, 1) := by decide +kernel
theorem d5_5 : decode method_3_code 5 = .ok (.lload_n 0, 1) := by decide +kernel
theorem d5_6 : decode method_3_code 6 = .ok (.lload_n 3, 1) := by decide +kernel
theorem d5_7 : decode method_3_code 7 = .ok (.lsub, 1) := by decide +kernel
theorem d5_8 : decode method_3_code 8 = .ok (.iload_n 2, 1) := by decide +kernel
theorem d5_9 : decode method_3_code 9 = .ok (.iconst 1, 1) := by decide +kernel
theorem d5_10 : decode method_3_code 10 = .ok (.isub, 1) := by decide +kernel
theorem d5_11 : decode method_3_code 11 = .ok (.i2l, 1) := by decide +kernel
theorem d5_12 : decode method_3_code 12 = .ok (.ladd, 1) := by decide +kernel
theorem d5_13 : decode method_3_code 13 = .ok (.lconst 0, 1) := by decide +kernel
theorem d5_14 : decode method_3_code 14 = .ok (.lcmp, 1) := by decide +kernel
theorem d5_15 : decode method_3_code 15 = .ok (.ifCond .lt 7, 3) := by decide +kernel
theorem d5_18 : decode method_3_code 18 = .ok (.iconst 1, 1) := by decide +kernel
theorem d5_19 : decode method_3_code 19 = .ok (.goto 4, 3) := by decide +kernel
theorem d5_22 : decode method_3_code 22 = .ok (.iconst 0, 1) := by decide +kernel
theorem d5_23 : decode method_3_code 23 = .ok (.ireturn, 1) := by decide +kernel
theorem pn_5 : plainName "com/example/cordon/cordon/RngBelowPinLaw" = true := by first | (simp [plainName, overriddenIn]; done) | decide +kernel
theorem ef_5 (m : MethodId) (q0 : Int64) (p1 : Int32) : entryFrame m #[(.long q0), (.int p1)] 5 = mkF m 0 #[.val (.long q0), .second, .val (.int p1), .unset, .unset] [] := by first | (simp [entryFrame, mkF, argsToLocals, Value.category]; done) | rfl
def rm5_room : Room := { frames := 0, cells := 0, slots := 0, locals := 0 }
def own_f5 (q0 : Int64) (p1 : Int32) : Int32 := (if ((q0 - (q0 % (p1.toInt64))) + ((p1 - (1 : Int32)).toInt64)) < (0 : Int64) then ((0 : Int32)) else ((1 : Int32)))
def Qrm5 (Z : State) (q0 : Int64) (p1 : Int32) (h0 : Heap) (n0 : Nat) (v : Option Value) (h : Heap) (L : List Loc) : Prop := v = some (.int (own_f5 q0 p1)) ∧ Fr n0 L ∧ h = h0
theorem own_lf_own_f5_1 {q0 : Int64} {p1 : Int32} (hc1 : ((q0 - (q0 % (p1.toInt64))) + ((p1 - (1 : Int32)).toInt64)) < (0 : Int64)) : (some (.int (0 : Int32)) : Option Value) = some (.int (own_f5 q0 p1)) := by
  first | (simp only [own_f5, if_pos hc1]; done) | (simp only [own_f5, if_pos hc1]; rfl) | rfl
theorem own_lf_own_f5_2 {q0 : Int64} {p1 : Int32} (hc1 : ¬ (((q0 - (q0 % (p1.toInt64))) + ((p1 - (1 : Int32)).toInt64)) < (0 : Int64))) : (some (.int (1 : Int32)) : Option Value) = some (.int (own_f5 q0 p1)) := by
  first | (simp only [own_f5, if_neg hc1]; done) | (simp only [own_f5, if_neg hc1]; rfl) | rfl
set_option maxRecDepth 65536 in
set_option maxHeartbeats 40000000 in
theorem rm5 (l : Launch) (Z : State) (a0 : Array Value) (hw : ∀ d ∈ tables_1, d.before a0 Z = true) (ws : List Jvm.Cond) (q0 : Int64) (p1 : Int32) (h0 : Heap) (n0 : Nat) (Z0 : n0 ≤ h0.size) (hp : (0 : Int32) < p1) :
    MetFree l (⟨"com/example/cordon/cordon/RngBelowPinLaw", "full", "(JI)Z"⟩ : MethodName) (head1 (Jvm.Cond.code (⟨"com/example/cordon/cordon/RngBelowPinLaw", "full", "(JI)Z"⟩ : MethodName) method_3_code 5 (some .boolean) :: ws) rm5_room) (fun a U => a = #[(.long q0), (.int p1)] ∧ Z.Warmed39 U.vm ∧ U.heap = h0) (fun _ _ _ _ _ => True) (fun _ U o U' => ∃ v L, o = .returned v ∧ Qrm5 Z q0 p1 h0 n0 v U'.heap L ∧ FrameEnd U o U' L rm5_room.cells rm5_room.slots) := by
  refine MetFree.of_bodySF (plainFor_of_name pn_5) hisR ?_
  intro p e s m args below meth c s₁ Bd hml0 hP hK
  obtain ⟨rfl, hZ, hh⟩ := hP
  have hx := Bd.exec
  have hby := Bd.bytes
  have hml : c.maxLocals = 5 := hml0
  have hown : s.vm.findClass "com/example/cordon/cordon/RngBelowPinLaw" = some m.cls := findClass_of_methodNamed Bd.named
  have hnm := (name_of_methodNamed Bd.named Bd.method).1
  have hlk : meth.locks = false := BodyLoose.notSynchronized Bd
  have X0 : Stand p l e rm5_room s m #[(.long q0), (.int p1)] below meth c s₁ [] 0 0 := Stand.of_body Bd
  have e0 : s₁.heap = h0 := by rw [← hh, Bd.state]; rfl
  have N0 := Fr.nil n0
  show own_Fin p.tables e below s (Qrm5 Z q0 p1 h0 n0) rm5_room.cells rm5_room.slots (s₁.setTop (entryFrame m #[(.long q0), (.int p1)] 5))
  rw [ef_5]
  show own_Fin _ _ _ _ _ _ _ (s₁.setTop (mkF m 0 #[.val (.long q0), .second, .val (.int p1), .unset, .unset] []))
  refine own_go (fun _ k => XS.lloadN X0.here hx rfl (hb hby d5_0) rfl k) ?_
  show own_Fin _ _ _ _ _ _ _ (s₁.setTop (mkF m 1 #[.val (.long q0), .second, .val (.int p1), .unset, .unset] [(.long q0)]))
  refine own_go (fun _ k => XS.iloadN X0.here hx rfl (hb hby d5_1) rfl k) ?_
  show own_Fin _ _ _ _ _ _ _ (s₁.setTop (mkF m 2 #[.val (.long q0), .second, .val (.int p1), .unset, .unset] [(.int p1), (.long q0)]))
  refine own_go (fun _ k => XS.i2l X0.here hx rfl (hb hby d5_2) rfl k) ?_
  show own_Fin _ _ _ _ _ _ _ (s₁.setTop (mkF m 3 #[.val (.long q0), .second, .val (.int p1), .unset, .unset] [(.long (p1.toInt64)), (.long q0)]))
  refine own_go (fun _ k => own_lrem X0.here hx rfl (hb hby d5_3) rfl (own_bnz hp) k) ?_
  show own_Fin _ _ _ _ _ _ _ (s₁.setTop (mkF m 4 #[.val (.long q0), .second, .val (.int p1), .unset, .unset] [(.long (q0 % (p1.toInt64)))]))
  refine own_go (fun _ k => XS.lstoreN X0.here hx rfl (hb hby d5_4) rfl (l' := #[.val (.long q0), .second, .val (.int p1), .val (.long (q0 % (p1.toInt64))), .second]) rfl k) ?_
  show own_Fin _ _ _ _ _ _ _ (s₁.setTop (mkF m 5 #[.val (.long q0), .second, .val (.int p1), .val (.long (q0 % (p1.toInt64))), .second] []))
  refine own_go (fun _ k => XS.lloadN X0.here hx rfl (hb hby d5_5) rfl k) ?_
  show own_Fin _ _ _ _ _ _ _ (s₁.setTop (mkF m 6 #[.val (.long q0), .second, .val (.int p1), .val (.long (q0 % (p1.toInt64))), .second] [(.long q0)]))
  refine own_go (fun _ k => XS.lloadN X0.here hx rfl (hb hby d5_6) rfl k) ?_
  show own_Fin _ _ _ _ _ _ _ (s₁.setTop (mkF m 7 #[.val (.long q0), .second, .val (.int p1), .val (.long (q0 % (p1.toInt64))), .second] [(.long (q0 % (p1.toInt64))), (.long q0)]))
  refine own_go (fun _ k => XS.lsub X0.here hx rfl (hb hby d5_7) rfl k) ?_
  show own_Fin _ _ _ _ _ _ _ (s₁.setTop (mkF m 8 #[.val (.long q0), .second, .val (.int p1), .val (.long (q0 % (p1.toInt64))), .second] [(.long (q0 - (q0 % (p1.toInt64))))]))
  refine own_go (fun _ k => XS.iloadN X0.here hx rfl (hb hby d5_8) rfl k) ?_
  show own_Fin _ _ _ _ _ _ _ (s₁.setTop (mkF m 9 #[.val (.long q0), .second, .val (.int p1), .val (.long (q0 % (p1.toInt64))), .second] [(.int p1), (.long (q0 - (q0 % (p1.toInt64))))]))
  refine own_go (fun _ k => XS.iconst X0.here hx rfl (hb hby d5_9) k) ?_
  show own_Fin _ _ _ _ _ _ _ (s₁.setTop (mkF m 10 #[.val (.long q0), .second, .val (.int p1), .val (.long (q0 % (p1.toInt64))), .second] [(.int (1 : Int32)), (.int p1), (.long (q0 - (q0 % (p1.toInt64))))]))
  refine own_go (fun _ k => XS.isub X0.here hx rfl (hb hby d5_10) rfl k) ?_
  show own_Fin _ _ _ _ _ _ _ (s₁.setTop (mkF m 11 #[.val (.long q0), .second, .val (.int p1), .val (.long (q0 % (p1.toInt64))), .second] [(.int (p1 - (1 : Int32))), (.long (q0 - (q0 % (p1.toInt64))))]))
  refine own_go (fun _ k => XS.i2l X0.here hx rfl (hb hby d5_11) rfl k) ?_
  show own_Fin _ _ _ _ _ _ _ (s₁.setTop (mkF m 12 #[.val (.long q0), .second, .val (.int p1), .val (.long (q0 % (p1.toInt64))), .second] [(.long ((p1 - (1 : Int32)).toInt64)), (.long (q0 - (q0 % (p1.toInt64))))]))
  refine own_go (fun _ k => XS.ladd X0.here hx rfl (hb hby d5_12) rfl k) ?_
  show own_Fin _ _ _ _ _ _ _ (s₁.setTop (mkF m 13 #[.val (.long q0), .second, .val (.int p1), .val (.long (q0 % (p1.toInt64))), .second] [(.long ((q0 - (q0 % (p1.toInt64))) + ((p1 - (1 : Int32)).toInt64)))]))
  refine own_go (fun _ k => XS.lconst X0.here hx rfl (hb hby d5_13) k) ?_
  show own_Fin _ _ _ _ _ _ _ (s₁.setTop (mkF m 14 #[.val (.long q0), .second, .val (.int p1), .val (.long (q0 % (p1.toInt64))), .second] [(.long (0 : Int64)), (.long ((q0 - (q0 % (p1.toInt64))) + ((p1 - (1 : Int32)).toInt64)))]))
  refine own_go (fun _ k => XS.lcmp X0.here hx rfl (hb hby d5_14) rfl k) ?_
  show own_Fin _ _ _ _ _ _ _ (s₁.setTop (mkF m 15 #[.val (.long q0), .second, .val (.int p1), .val (.long (q0 % (p1.toInt64))), .second] [(.int (lcmpW ((q0 - (q0 % (p1.toInt64))) + ((p1 - (1 : Int32)).toInt64)) (0 : Int64)))]))
  by_cases hc1 : ((q0 - (q0 % (p1.toInt64))) + ((p1 - (1 : Int32)).toInt64)) < (0 : Int64)
  · refine own_go (fun _ k => XS.ifYes X0.here hx rfl (pc0 := 15) (pc' := 22) rfl (hb hby d5_15) rfl ((if0 _ _).trans (tlt ((lw_lt _ _).mpr hc1)).1) (by decide) (by decide) k) ?_
    show own_Fin _ _ _ _ _ _ _ (s₁.setTop (mkF m 22 #[.val (.long q0), .second, .val (.int p1), .val (.long (q0 % (p1.toInt64))), .second] []))
    refine own_go (fun _ k => XS.iconst X0.here hx rfl (hb hby d5_22) k) ?_
    show own_Fin _ _ _ _ _ _ _ (s₁.setTop (mkF m 23 #[.val (.long q0), .second, .val (.int p1), .val (.long (q0 % (p1.toInt64))), .second] [(.int (0 : Int32))]))
    refine own_ret X0 hx hlk Bd.returns rfl (Or.inl ⟨rfl, by simp, _, rfl⟩) (hb hby d5_23) (Nat.le_of_ble_eq_true rfl) (Nat.le_of_ble_eq_true rfl) ?_
    refine ⟨(own_lf_own_f5_1 (q0 := q0) (p1 := p1) hc1), N0, e0⟩
  · refine own_go (fun _ k => XS.ifNo X0.here hx rfl (hb hby d5_15) rfl ((if0 _ _).trans (flt (mt (lw_lt _ _).mp hc1)).1) k) ?_
    show own_Fin _ _ _ _ _ _ _ (s₁.setTop (mkF m 18 #[.val (.long q0), .second, .val (.int p1), .val (.long (q0 % (p1.toInt64))), .second] []))
    refine own_go (fun _ k => XS.iconst X0.here hx rfl (hb hby d5_18) k) ?_
    show own_Fin _ _ _ _ _ _ _ (s₁.setTop (mkF m 19 #[.val (.long q0), .second, .val (.int p1), .val (.long (q0 % (p1.toInt64))), .second] [(.int (1 : Int32))]))
    refine own_go (fun _ k => XS.goto X0.here hx rfl (pc0 := 19) (pc' := 23) rfl (hb hby d5_19) (by decide) (by decide) k) ?_
    show own_Fin _ _ _ _ _ _ _ (s₁.setTop (mkF m 23 #[.val (.long q0), .second, .val (.int p1), .val (.long (q0 % (p1.toInt64))), .second] [(.int (1 : Int32))]))
    refine own_ret X0 hx hlk Bd.returns rfl (Or.inl ⟨rfl, by simp, _, rfl⟩) (hb hby d5_23) (Nat.le_of_ble_eq_true rfl) (Nat.le_of_ble_eq_true rfl) ?_
    refine ⟨(own_lf_own_f5_2 (q0 := q0) (p1 := p1) hc1), N0, e0⟩
theorem d6_0 : decode jdk_29_method_65_code 0 = .ok (.iload_n 0, 1) := by decide +kernel
theorem d6_1 : decode jdk_29_method_65_code 1 = .ok (.iload_n 1, 1) := by decide +kernel
theorem d6_2 : decode jdk_29_method_65_code 2 = .ok (.if_icmp .lt 7, 3) := by decide +kernel
theorem d6_5 : decode jdk_29_method_65_code 5 = .ok (.iload_n 0, 1) := by decide +kernel
theorem d6_6 : decode jdk_29_method_65_code 6 = .ok (.goto 4, 3) := by decide +kernel
theorem d6_9 : decode jdk_29_method_65_code 9 = .ok (.iload_n 1, 1) := by decide +kernel
theorem d6_10 : decode jdk_29_method_65_code 10 = .ok (.ireturn, 1) := by decide +kernel
theorem ef_6 (m : MethodId) (p0 : Int32) (p1 : Int32) : entryFrame m #[(.int p0), (.int p1)] 2 = mkF m 0 #[.val (.int p0), .val (.int p1)] [] := by first | (simp [entryFrame, mkF, argsToLocals, Value.category]; done) | rfl
def own_rm6_room : Room := { frames := 0, cells := 0, slots := 0, locals := 0 }
def own_f6 (p0 : Int32) (p1 : Int32) : Int32 := (if p0 < p1 then (p1) else (p0))
theorem own_lf_own_f6_1 {p0 : Int32} {p1 : Int32} (hc1 : p0 < p1) : (some (.int p1) : Option Value) = some (.int (own_f6 p0 p1)) := by
  first | (simp only [own_f6, if_pos hc1]; done) | (simp only [own_f6, if_pos hc1]; rfl) | rfl
theorem own_lf_own_f6_2 {p0 : Int32} {p1 : Int32} (hc1 : ¬ (p0 < p1)) : (some (.int p0) : Option Value) = some (.int (own_f6 p0 p1)) := by
  first | (simp only [own_f6, if_neg hc1]; done) | (simp only [own_f6, if_neg hc1]; rfl) | rfl
set_option maxRecDepth 65536 in
set_option maxHeartbeats 40000000 in
theorem rm6 (l : Launch) (Z : State) (a0 : Array Value) (hw : ∀ d ∈ tables_1, d.before a0 Z = true) (ws : List Jvm.Cond) (p0 : Int32) (p1 : Int32) (h0 : Heap) (n0 : Nat) (Z0 : n0 ≤ h0.size) :
    MetFree l (⟨"java/lang/Math", "max", "(II)I"⟩ : MethodName) (head1 (Jvm.Cond.code (⟨"java/lang/Math", "max", "(II)I"⟩ : MethodName) jdk_29_method_65_code 2 (some .int) :: ws) own_rm6_room) (fun a U => a = #[(.int p0), (.int p1)] ∧ Z.Warmed39 U.vm ∧ U.heap = h0) (fun _ _ _ _ _ => True) (fun _ U o U' => ∃ v L, o = .returned v ∧ own_QP (some (.int (own_f6 p0 p1))) h0 n0 v U'.heap L ∧ FrameEnd U o U' L own_rm6_room.cells own_rm6_room.slots) := by
  refine MetFree.of_bodySF (Jvm.Free.JP.mathPlain rfl (by decide +kernel)) hisR ?_
  intro p e s m args below meth c s₁ Bd hml0 hP hK
  obtain ⟨rfl, hZ, hh⟩ := hP
  have hx := Bd.exec
  have hby := Bd.bytes
  have hml : c.maxLocals = 2 := hml0
  have hown : s.vm.findClass "java/lang/Math" = some m.cls := findClass_of_methodNamed Bd.named
  have hnm := (name_of_methodNamed Bd.named Bd.method).1
  have hlk : meth.locks = false := BodyLoose.notSynchronized Bd
  have X0 : Stand p l e own_rm6_room s m #[(.int p0), (.int p1)] below meth c s₁ [] 0 0 := Stand.of_body Bd
  have e0 : s₁.heap = h0 := by rw [← hh, Bd.state]; rfl
  have N0 := Fr.nil n0
  show own_Fin p.tables e below s (own_QP (some (.int (own_f6 p0 p1))) h0 n0) own_rm6_room.cells own_rm6_room.slots (s₁.setTop (entryFrame m #[(.int p0), (.int p1)] 2))
  rw [ef_6]
  show own_Fin _ _ _ _ _ _ _ (s₁.setTop (mkF m 0 #[.val (.int p0), .val (.int p1)] []))
  refine own_go (fun _ k => XS.iloadN X0.here hx rfl (hb hby d6_0) rfl k) ?_
  show own_Fin _ _ _ _ _ _ _ (s₁.setTop (mkF m 1 #[.val (.int p0), .val (.int p1)] [(.int p0)]))
  refine own_go (fun _ k => XS.iloadN X0.here hx rfl (hb hby d6_1) rfl k) ?_
  show own_Fin _ _ _ _ _ _ _ (s₁.setTop (mkF m 2 #[.val (.int p0), .val (.int p1)] [(.int p1), (.int p0)]))
  by_cases hc1 : p0 < p1
  · refine own_go (fun _ k => XS.icmpYes X0.here hx rfl (pc0 := 2) (pc' := 9) rfl (hb hby d6_2) rfl (tlt hc1).1 (by decide) (by decide) k) ?_
    show own_Fin _ _ _ _ _ _ _ (s₁.setTop (mkF m 9 #[.val (.int p0), .val (.int p1)] []))
    refine own_go (fun _ k => XS.iloadN X0.here hx rfl (hb hby d6_9) rfl k) ?_
    show own_Fin _ _ _ _ _ _ _ (s₁.setTop (mkF m 10 #[.val (.int p0), .val (.int p1)] [(.int p1)]))
    refine own_ret X0 hx hlk Bd.returns rfl (Or.inl ⟨rfl, by simp, _, rfl⟩) (hb hby d6_10) (Nat.le_of_ble_eq_true rfl) (Nat.le_of_ble_eq_true rfl) ?_
    exact ⟨(own_lf_own_f6_1 (p0 := p0) (p1 := p1) hc1), N0, e0⟩
  · refine own_go (fun _ k => XS.icmpNo X0.here hx rfl (hb hby d6_2) rfl (flt hc1).1 k) ?_
    show own_Fin _ _ _ _ _ _ _ (s₁.setTop (mkF m 5 #[.val (.int p0), .val (.int p1)] []))
    refine own_go (fun _ k => XS.iloadN X0.here hx rfl (hb hby d6_5) rfl k) ?_
    show own_Fin _ _ _ _ _ _ _ (s₁.setTop (mkF m 6 #[.val (.int p0), .val (.int p1)] [(.int p0)]))
    refine own_go (fun _ k => XS.goto X0.here hx rfl (pc0 := 6) (pc' := 10) rfl (hb hby d6_6) (by decide) (by decide) k) ?_
    show own_Fin _ _ _ _ _ _ _ (s₁.setTop (mkF m 10 #[.val (.int p0), .val (.int p1)] [(.int p0)]))
    refine own_ret X0 hx hlk Bd.returns rfl (Or.inl ⟨rfl, by simp, _, rfl⟩) (hb hby d6_10) (Nat.le_of_ble_eq_true rfl) (Nat.le_of_ble_eq_true rfl) ?_
    exact ⟨(own_lf_own_f6_2 (p0 := p0) (p1 := p1) hc1), N0, e0⟩
theorem own_bd (p2 p3 : Int32) : (0 : Int32) < (if (p3 &&& (1 : Int32)) = (0 : Int32) then (own_f6 (1 : Int32) (p2 &&& (2147483647 : Int32))) else ((p2 &&& (15 : Int32)) + (1 : Int32))) := by
  have k0 : (0 : Int32).toInt = 0 := by decide
  have k1 : (1 : Int32).toInt = 1 := by decide
  have a := c_and p2 15 (by decide)
  rw [show (15 : Int32).toInt = 15 from by decide] at a
  have b := c_iadd (p2 &&& 15) 1
  have r := rng32 (p2 &&& 15 + 1)
  have r' := rng32 ((p2 &&& 15) + 1)
  split
  · simp only [own_f6]
    split
    · rename_i q; rw [Int32.lt_iff_toInt_lt] at q ⊢; omega
    · decide
  · rw [Int32.lt_iff_toInt_lt]; omega

theorem own_pd100 : parseMethodDescriptor "(II)I" = some ⟨[.int, .int], some .int⟩ := by decide +kernel
theorem own_pd101 : parseMethodDescriptor "(J)V" = some ⟨[.long], none⟩ := by decide +kernel
theorem own_pd102 : parseMethodDescriptor "(I)I" = some ⟨[.int], some .int⟩ := by decide +kernel
theorem own_pd103 : parseMethodDescriptor "(JI)Z" = some ⟨[.long, .int], some .boolean⟩ := by decide +kernel
theorem pn_0 : plainName "com/example/cordon/cordon/RngBelowPinLaw" = true := by first | (simp [plainName, overriddenIn]; done) | decide +kernel
theorem ef_0 (m : MethodId) (q0 : Int64) (p1 : Int32) (p2 : Int32) : entryFrame m #[(.long q0), (.int p1), (.int p2)] maxLocals = mkF m 0 #[.val (.long q0), .second, .val (.int p1), .val (.int p2), .unset, .unset, .unset, .unset, .unset, .unset, .unset, .unset, .unset, .unset, .unset, .unset, .unset, .unset] [] := by first | (simp [entryFrame, mkF, argsToLocals, Value.category, maxLocals]; done) | rfl
def own_f0 (q0 : Int64) (p1 : Int32) (p2 : Int32) : Int32 := let z7 := (if (p2 &&& (1 : Int32)) = (0 : Int32) then (own_f6 (1 : Int32) (p1 &&& (2147483647 : Int32))) else ((p1 &&& (15 : Int32)) + (1 : Int32))); let z15 := (own_lushr (own_f4 q0) (1 : Int32)); let z17 := (own_f4 (q0 + (-7046029254386353131 : Int64))); (if (own_f5 z15 z7) = (0 : Int32) then (let z21 := (own_f4 ((q0 + (-7046029254386353131 : Int64)) + (-7046029254386353131 : Int64))); (if (own_f5 (own_lushr z17 (1 : Int32)) z7) = (0 : Int32) then ((1 : Int32)) else ((if ((own_belE q0 z7).1) = (((own_lushr z17 (1 : Int32)) % (z7.toInt64)).toInt32) then ((if (own_f4 ((own_belE q0 z7).2)) = z21 then ((1 : Int32)) else ((0 : Int32)))) else ((0 : Int32)))))) else ((if ((own_belE q0 z7).1) = ((z15 % (z7.toInt64)).toInt32) then ((if (own_f4 ((own_belE q0 z7).2)) = z17 then ((1 : Int32)) else ((0 : Int32)))) else ((0 : Int32)))))
theorem own_lf_own_f0_1 {q0 : Int64} {p1 : Int32} {p2 : Int32} {z7 : Int32} {z15 : Int64} {z17 : Int64} (hz7 : (if (p2 &&& (1 : Int32)) = (0 : Int32) then (own_f6 (1 : Int32) (p1 &&& (2147483647 : Int32))) else ((p1 &&& (15 : Int32)) + (1 : Int32))) = z7) (hz15 : (own_lushr (own_f4 q0) (1 : Int32)) = z15) (hz17 : (own_f4 (q0 + (-7046029254386353131 : Int64))) = z17) (hc19 : (own_f5 z15 z7) = (0 : Int32)) (hc23 : (own_f5 (own_lushr z17 (1 : Int32)) z7) = (0 : Int32)) : (some (.int (1 : Int32)) : Option Value) = some (.int (own_f0 q0 p1 p2)) := by
  subst hz17
  subst hz15
  subst hz7
  first | (simp only [own_f0, if_pos hc19, if_pos hc23]; done) | (simp only [own_f0, if_pos hc19, if_pos hc23]; rfl) | rfl
theorem own_lf_own_f0_2 {q0 : Int64} {p1 : Int32} {p2 : Int32} {z7 : Int32} {z15 : Int64} {z17 : Int64} {z21 : Int64} (hz7 : (if (p2 &&& (1 : Int32)) = (0 : Int32) then (own_f6 (1 : Int32) (p1 &&& (2147483647 : Int32))) else ((p1 &&& (15 : Int32)) + (1 : Int32))) = z7) (hz15 : (own_lushr (own_f4 q0) (1 : Int32)) = z15) (hz17 : (own_f4 (q0 + (-7046029254386353131 : Int64))) = z17) (hz21 : (own_f4 ((q0 + (-7046029254386353131 : Int64)) + (-7046029254386353131 : Int64))) = z21) (hc19 : (own_f5 z15 z7) = (0 : Int32)) (hc23 : ¬ ((own_f5 (own_lushr z17 (1 : Int32)) z7) = (0 : Int32))) (hc24 : ((own_belE q0 z7).1) = (((own_lushr z17 (1 : Int32)) % (z7.toInt64)).toInt32)) (hc25 : (own_f4 ((own_belE q0 z7).2)) = z21) : (some (.int (1 : Int32)) : Option Value) = some (.int (own_f0 q0 p1 p2)) := by
  subst hz21
  subst hz17
  subst hz15
  subst hz7
  first | (simp only [own_f0, if_pos hc19, if_neg hc23, if_pos hc24, if_pos hc25]; done) | (simp only [own_f0, if_pos hc19, if_neg hc23, if_pos hc24, if_pos hc25]; rfl) | rfl
theorem own_lf_own_f0_3 {q0 : Int64} {p1 : Int32} {p2 : Int32} {z7 : Int32} {z15 : Int64} {z17 : Int64} {z21 : Int64} (hz7 : (if (p2 &&& (1 : Int32)) = (0 : Int32) then (own_f6 (1 : Int32) (p1 &&& (2147483647 : Int32))) else ((p1 &&& (15 : Int32)) + (1 : Int32))) = z7) (hz15 : (own_lushr (own_f4 q0) (1 : Int32)) = z15) (hz17 : (own_f4 (q0 + (-7046029254386353131 : Int64))) = z17) (hz21 : (own_f4 ((q0 + (-7046029254386353131 : Int64)) + (-7046029254386353131 : Int64))) = z21) (hc19 : (own_f5 z15 z7) = (0 : Int32)) (hc23 : ¬ ((own_f5 (own_lushr z17 (1 : Int32)) z7) = (0 : Int32))) (hc24 : ((own_belE q0 z7).1) = (((own_lushr z17 (1 : Int32)) % (z7.toInt64)).toInt32)) (hc25 : ¬ ((own_f4 ((own_belE q0 z7).2)) = z21)) : (some (.int (0 : Int32)) : Option Value) = some (.int (own_f0 q0 p1 p2)) := by
  subst hz21
  subst hz17
  subst hz15
  subst hz7
  first | (simp only [own_f0, if_pos hc19, if_neg hc23, if_pos hc24, if_neg hc25]; done) | (simp only [own_f0, if_pos hc19, if_neg hc23, if_pos hc24, if_neg hc25]; rfl) | rfl
theorem own_lf_own_f0_4 {q0 : Int64} {p1 : Int32} {p2 : Int32} {z7 : Int32} {z15 : Int64} {z17 : Int64} (hz7 : (if (p2 &&& (1 : Int32)) = (0 : Int32) then (own_f6 (1 : Int32) (p1 &&& (2147483647 : Int32))) else ((p1 &&& (15 : Int32)) + (1 : Int32))) = z7) (hz15 : (own_lushr (own_f4 q0) (1 : Int32)) = z15) (hz17 : (own_f4 (q0 + (-7046029254386353131 : Int64))) = z17) (hc19 : (own_f5 z15 z7) = (0 : Int32)) (hc23 : ¬ ((own_f5 (own_lushr z17 (1 : Int32)) z7) = (0 : Int32))) (hc24 : ¬ (((own_belE q0 z7).1) = (((own_lushr z17 (1 : Int32)) % (z7.toInt64)).toInt32))) : (some (.int (0 : Int32)) : Option Value) = some (.int (own_f0 q0 p1 p2)) := by
  subst hz17
  subst hz15
  subst hz7
  first | (simp only [own_f0, if_pos hc19, if_neg hc23, if_neg hc24]; done) | (simp only [own_f0, if_pos hc19, if_neg hc23, if_neg hc24]; rfl) | rfl
theorem own_lf_own_f0_5 {q0 : Int64} {p1 : Int32} {p2 : Int32} {z7 : Int32} {z15 : Int64} {z17 : Int64} (hz7 : (if (p2 &&& (1 : Int32)) = (0 : Int32) then (own_f6 (1 : Int32) (p1 &&& (2147483647 : Int32))) else ((p1 &&& (15 : Int32)) + (1 : Int32))) = z7) (hz15 : (own_lushr (own_f4 q0) (1 : Int32)) = z15) (hz17 : (own_f4 (q0 + (-7046029254386353131 : Int64))) = z17) (hc19 : ¬ ((own_f5 z15 z7) = (0 : Int32))) (hc26 : ((own_belE q0 z7).1) = ((z15 % (z7.toInt64)).toInt32)) (hc27 : (own_f4 ((own_belE q0 z7).2)) = z17) : (some (.int (1 : Int32)) : Option Value) = some (.int (own_f0 q0 p1 p2)) := by
  subst hz17
  subst hz15
  subst hz7
  first | (simp only [own_f0, if_neg hc19, if_pos hc26, if_pos hc27]; done) | (simp only [own_f0, if_neg hc19, if_pos hc26, if_pos hc27]; rfl) | rfl
theorem own_lf_own_f0_6 {q0 : Int64} {p1 : Int32} {p2 : Int32} {z7 : Int32} {z15 : Int64} {z17 : Int64} (hz7 : (if (p2 &&& (1 : Int32)) = (0 : Int32) then (own_f6 (1 : Int32) (p1 &&& (2147483647 : Int32))) else ((p1 &&& (15 : Int32)) + (1 : Int32))) = z7) (hz15 : (own_lushr (own_f4 q0) (1 : Int32)) = z15) (hz17 : (own_f4 (q0 + (-7046029254386353131 : Int64))) = z17) (hc19 : ¬ ((own_f5 z15 z7) = (0 : Int32))) (hc26 : ((own_belE q0 z7).1) = ((z15 % (z7.toInt64)).toInt32)) (hc27 : ¬ ((own_f4 ((own_belE q0 z7).2)) = z17)) : (some (.int (0 : Int32)) : Option Value) = some (.int (own_f0 q0 p1 p2)) := by
  subst hz17
  subst hz15
  subst hz7
  first | (simp only [own_f0, if_neg hc19, if_pos hc26, if_neg hc27]; done) | (simp only [own_f0, if_neg hc19, if_pos hc26, if_neg hc27]; rfl) | rfl
theorem own_lf_own_f0_7 {q0 : Int64} {p1 : Int32} {p2 : Int32} {z7 : Int32} {z15 : Int64} (hz7 : (if (p2 &&& (1 : Int32)) = (0 : Int32) then (own_f6 (1 : Int32) (p1 &&& (2147483647 : Int32))) else ((p1 &&& (15 : Int32)) + (1 : Int32))) = z7) (hz15 : (own_lushr (own_f4 q0) (1 : Int32)) = z15) (hc19 : ¬ ((own_f5 z15 z7) = (0 : Int32))) (hc26 : ¬ (((own_belE q0 z7).1) = ((z15 % (z7.toInt64)).toInt32))) : (some (.int (0 : Int32)) : Option Value) = some (.int (own_f0 q0 p1 p2)) := by
  subst hz15
  subst hz7
  first | (simp only [own_f0, if_neg hc19, if_neg hc26]; done) | (simp only [own_f0, if_neg hc19, if_neg hc26]; rfl) | rfl
set_option maxRecDepth 65536 in
set_option maxHeartbeats 40000000 in
theorem rm0 (l : Launch) (Z : State) (a0 : Array Value) (hw : ∀ d ∈ tables_1, d.before a0 Z = true) (ws : List Jvm.Cond) (q0 : Int64) (p1 : Int32) (p2 : Int32) (h0 : Heap) (n0 : Nat) (Z0 : n0 ≤ h0.size) :
    MetFree l x (head1 (Jvm.Cond.code x code maxLocals ret :: ws) room_1) (fun a U => a = #[(.long q0), (.int p1), (.int p2)] ∧ Z.Warmed39 U.vm ∧ U.heap = h0) (fun _ _ _ _ _ => True) (fun _ U o U' => ∃ v L, o = .returned v ∧ own_QL (some (.int (own_f0 q0 p1 p2))) n0 v U'.heap L ∧ FrameEnd U o U' L 16 128) := by
  refine MetFree.of_bodySF (plainFor_of_name pn_0) hisR ?_
  intro p e s m args below meth c s₁ Bd hml0 hP hK
  obtain ⟨rfl, hZ, hh⟩ := hP
  have hx := Bd.exec
  have hby := Bd.bytes
  have hml : c.maxLocals = 18 := hml0
  have hown : s.vm.findClass "com/example/cordon/cordon/RngBelowPinLaw" = some m.cls := findClass_of_methodNamed Bd.named
  have hnm := (name_of_methodNamed Bd.named Bd.method).1
  have hlk : meth.locks = false := BodyLoose.notSynchronized Bd
  have X0 : Stand p l e room_1 s m #[(.long q0), (.int p1), (.int p2)] below meth c s₁ [] 0 0 := Stand.of_body Bd
  have e0 : s₁.heap = h0 := by rw [← hh, Bd.state]; rfl
  have N0 := Fr.nil n0
  show own_Fin p.tables e below s (own_QL (some (.int (own_f0 q0 p1 p2))) n0) 16 128 (s₁.setTop (entryFrame m #[(.long q0), (.int p1), (.int p2)] maxLocals))
  rw [ef_0]
  show own_Fin _ _ _ _ _ _ _ (s₁.setTop (mkF m 0 #[.val (.long q0), .second, .val (.int p1), .val (.int p2), .unset, .unset, .unset, .unset, .unset, .unset, .unset, .unset, .unset, .unset, .unset, .unset, .unset, .unset] []))
  refine own_go (fun _ k => XS.iloadN X0.here hx rfl (hb hby at_0) rfl k) ?_
  show own_Fin _ _ _ _ _ _ _ (s₁.setTop (mkF m 1 #[.val (.long q0), .second, .val (.int p1), .val (.int p2), .unset, .unset, .unset, .unset, .unset, .unset, .unset, .unset, .unset, .unset, .unset, .unset, .unset, .unset] [(.int p2)]))
  refine own_go (fun _ k => XS.iconst X0.here hx rfl (hb hby at_1) k) ?_
  show own_Fin _ _ _ _ _ _ _ (s₁.setTop (mkF m 2 #[.val (.long q0), .second, .val (.int p1), .val (.int p2), .unset, .unset, .unset, .unset, .unset, .unset, .unset, .unset, .unset, .unset, .unset, .unset, .unset, .unset] [(.int (1 : Int32)), (.int p2)]))
  refine own_go (fun _ k => XS.iand X0.here hx rfl (hb hby at_2) rfl k) ?_
  show own_Fin _ _ _ _ _ _ _ (s₁.setTop (mkF m 3 #[.val (.long q0), .second, .val (.int p1), .val (.int p2), .unset, .unset, .unset, .unset, .unset, .unset, .unset, .unset, .unset, .unset, .unset, .unset, .unset, .unset] [(.int (p2 &&& (1 : Int32)))]))
  have hk2 : ∀ (T' : State) (L' : List Loc), Stand p l e room_1 s m #[(.long q0), (.int p1), (.int p2)] below meth c T' L' 0 0 → Fr n0 L' → T'.heap = h0 → own_Fin p.tables e below s (own_QL (some (.int (own_f0 q0 p1 p2))) n0) 16 128 (T'.setTop (mkF m 27 #[.val (.long q0), .second, .val (.int p1), .val (.int p2), .val (.int (if (p2 &&& (1 : Int32)) = (0 : Int32) then (own_f6 (1 : Int32) (p1 &&& (2147483647 : Int32))) else ((p1 &&& (15 : Int32)) + (1 : Int32)))), .unset, .unset, .unset, .unset, .unset, .unset, .unset, .unset, .unset, .unset, .unset, .unset, .unset] [])) := by
    intro T6 L6 X6 N6 e6
    generalize hz7 : (if (p2 &&& (1 : Int32)) = (0 : Int32) then (own_f6 (1 : Int32) (p1 &&& (2147483647 : Int32))) else ((p1 &&& (15 : Int32)) + (1 : Int32))) = z7
    show own_Fin _ _ _ _ _ _ _ (T6.setTop (mkF m 27 #[.val (.long q0), .second, .val (.int p1), .val (.int p2), .val (.int z7), .unset, .unset, .unset, .unset, .unset, .unset, .unset, .unset, .unset, .unset, .unset, .unset, .unset] []))
    obtain ⟨T8, h8, X8, e8, E8, A8, D8, -, st8⟩ := newO X6 hx hZ hown (hw _ (List.mem_of_getElem? (i := 0) rfl)) (hw _ (List.mem_of_getElem? (i := 1) rfl)) (hw _ (List.mem_of_getElem? (i := 2) rfl)) e6 (g := (mkF m 27 #[.val (.long q0), .second, .val (.int p1), .val (.int p2), .val (.int z7), .unset, .unset, .unset, .unset, .unset, .unset, .unset, .unset, .unset, .unset, .unset, .unset, .unset] [])) rfl (hb hby at_27) (by decide) (by decide)
    obtain ⟨b8, g8⟩ : ∃ z, z = h0.size := ⟨_, rfl⟩
    rw [← g8] at A8 D8 st8
    have ge_b8 : n0 ≤ b8 := Nat.le_trans Z0 (Nat.le_of_eq g8.symm)
    have Z8 : n0 ≤ h8.size := Nat.le_trans Z0 E8.1
    have E_b8_8 : Exa Z h8 b8 "com/example/cordon/cordon/Rng" := A8
    have F_state_b8_8 : Fld Z h8 b8 "com/example/cordon/cordon/Rng" "state" "J" (.long (0 : Int64)) := D8 (Or.inl (hw _ (List.mem_of_getElem? (i := 10) rfl))) (ty := .long) (by decide)
    refine own_go (fun tg k => st8 tg k) ?_
    show own_Fin _ _ _ _ _ _ _ (T8.setTop (mkF m 30 #[.val (.long q0), .second, .val (.int p1), .val (.int p2), .val (.int z7), .unset, .unset, .unset, .unset, .unset, .unset, .unset, .unset, .unset, .unset, .unset, .unset, .unset] [(.ref b8)]))
    refine own_go (fun _ k => XS.dup X8.here hx rfl (hb hby at_30) rfl rfl k) ?_
    show own_Fin _ _ _ _ _ _ _ (T8.setTop (mkF m 31 #[.val (.long q0), .second, .val (.int p1), .val (.int p2), .val (.int z7), .unset, .unset, .unset, .unset, .unset, .unset, .unset, .unset, .unset, .unset, .unset, .unset, .unset] [(.ref b8), (.ref b8)]))
    refine own_go (fun _ k => XS.lloadN X8.here hx rfl (hb hby at_31) rfl k) ?_
    show own_Fin _ _ _ _ _ _ _ (T8.setTop (mkF m 32 #[.val (.long q0), .second, .val (.int p1), .val (.int p2), .val (.int z7), .unset, .unset, .unset, .unset, .unset, .unset, .unset, .unset, .unset, .unset, .unset, .unset, .unset] [(.long q0), (.ref b8), (.ref b8)]))
    obtain ⟨_, _, ⟨T9, L9, k9, n9⟩, -, X9, ⟨Lc9, hQ9, l9, y9, z9⟩, st9⟩ := X8.specialBack hx (y := (⟨"com/example/cordon/cordon/Rng", "<init>", "(J)V"⟩ : MethodName)) rfl hown (mvT hZ (hw _ (List.mem_of_getElem? (i := 3) rfl))) (mvT hZ (hw _ (List.mem_of_getElem? (i := 4) rfl))) (mvT hZ (hw _ (List.mem_of_getElem? (i := 5) rfl))) (by decide) (backOf (W := 1) (rm1 l Z a0 hw [] b8 q0 (0 : Int64) h8 n0 Z8 E_b8_8 F_state_b8_8 ge_b8) hZ (hw _ (List.mem_of_getElem? (i := 5) rfl)) (hw _ (List.mem_of_getElem? (i := 2) rfl)) (by decide) (by decide)) (g := (mkF m 32 #[.val (.long q0), .second, .val (.int p1), .val (.int p2), .val (.int z7), .unset, .unset, .unset, .unset, .unset, .unset, .unset, .unset, .unset, .unset, .unset, .unset, .unset] [(.long q0), (.ref b8), (.ref b8)])) rfl (by rw [hml]; rfl) (Steps.refl _) (a := b8) (argsL := [(.long q0)]) (rest := [(.ref b8)]) (lenOf own_pd101 rfl) rfl (by show 2 * 0 + _ ≤ _; exact Nat.le_of_eq rfl) (hb hby at_32) (fun _ _ => ⟨rfl, e8, (by decide : 1 + 0 ≤ _), (by decide : 1 + 0 ≤ _)⟩)
    dsimp only [Pt.U, Pt.locs, Pt.cells, Pt.slots] at X9 l9 y9 z9 st9 hQ9
    replace y9 : 1 = k9 := y9.symm
    replace z9 : 1 = n9 := z9.symm
    subst y9 z9
    obtain ⟨rfl, N9q, Kq9, E_b8_9, F_state_b8_9⟩ := hQ9
    have N9 : Fr n0 L9 := by rw [l9]; exact Fr.app N6 N9q
    have Z9 : n0 ≤ T9.heap.size := Nat.le_trans Z8 Kq9.1
    refine own_go (fun tg k => st9.trans k) ?_
    show own_Fin _ _ _ _ _ _ _ (T9.setTop (mkF m 35 #[.val (.long q0), .second, .val (.int p1), .val (.int p2), .val (.int z7), .unset, .unset, .unset, .unset, .unset, .unset, .unset, .unset, .unset, .unset, .unset, .unset, .unset] [(.ref b8)]))
    refine own_go (fun _ k => XS.astore X9.here hx rfl (hb hby at_35) rfl rfl (l' := #[.val (.long q0), .second, .val (.int p1), .val (.int p2), .val (.int z7), .val (.ref b8), .unset, .unset, .unset, .unset, .unset, .unset, .unset, .unset, .unset, .unset, .unset, .unset]) rfl k) ?_
    show own_Fin _ _ _ _ _ _ _ (T9.setTop (mkF m 37 #[.val (.long q0), .second, .val (.int p1), .val (.int p2), .val (.int z7), .val (.ref b8), .unset, .unset, .unset, .unset, .unset, .unset, .unset, .unset, .unset, .unset, .unset, .unset] []))
    obtain ⟨T10, h10, X10, e10, E10, A10, D10, -, st10⟩ := newO X9 hx hZ hown (hw _ (List.mem_of_getElem? (i := 0) rfl)) (hw _ (List.mem_of_getElem? (i := 1) rfl)) (hw _ (List.mem_of_getElem? (i := 2) rfl)) rfl (g := (mkF m 37 #[.val (.long q0), .second, .val (.int p1), .val (.int p2), .val (.int z7), .val (.ref b8), .unset, .unset, .unset, .unset, .unset, .unset, .unset, .unset, .unset, .unset, .unset, .unset] [])) rfl (hb hby at_37) (by decide) (by decide)
    obtain ⟨b10, g10⟩ : ∃ z, z = T9.heap.size := ⟨_, rfl⟩
    rw [← g10] at A10 D10 st10
    have ne_b8_b10 : b8 ≠ b10 := Nat.ne_of_lt (Nat.lt_of_lt_of_le E_b8_9.lt (Nat.le_of_eq g10.symm))
    have ge_b10 : n0 ≤ b10 := Nat.le_trans Z9 (Nat.le_of_eq g10.symm)
    have E_b8_10 := E_b8_9.ext E10
    have F_state_b8_10 := F_state_b8_9.ext E10
    have Z10 : n0 ≤ h10.size := Nat.le_trans Z9 E10.1
    have E_b10_10 : Exa Z h10 b10 "com/example/cordon/cordon/Rng" := A10
    have F_state_b10_10 : Fld Z h10 b10 "com/example/cordon/cordon/Rng" "state" "J" (.long (0 : Int64)) := D10 (Or.inl (hw _ (List.mem_of_getElem? (i := 10) rfl))) (ty := .long) (by decide)
    refine own_go (fun tg k => st10 tg k) ?_
    show own_Fin _ _ _ _ _ _ _ (T10.setTop (mkF m 40 #[.val (.long q0), .second, .val (.int p1), .val (.int p2), .val (.int z7), .val (.ref b8), .unset, .unset, .unset, .unset, .unset, .unset, .unset, .unset, .unset, .unset, .unset, .unset] [(.ref b10)]))
    refine own_go (fun _ k => XS.dup X10.here hx rfl (hb hby at_40) rfl rfl k) ?_
    show own_Fin _ _ _ _ _ _ _ (T10.setTop (mkF m 41 #[.val (.long q0), .second, .val (.int p1), .val (.int p2), .val (.int z7), .val (.ref b8), .unset, .unset, .unset, .unset, .unset, .unset, .unset, .unset, .unset, .unset, .unset, .unset] [(.ref b10), (.ref b10)]))
    refine own_go (fun _ k => XS.lloadN X10.here hx rfl (hb hby at_41) rfl k) ?_
    show own_Fin _ _ _ _ _ _ _ (T10.setTop (mkF m 42 #[.val (.long q0), .second, .val (.int p1), .val (.int p2), .val (.int z7), .val (.ref b8), .unset, .unset, .unset, .unset, .unset, .unset, .unset, .unset, .unset, .unset, .unset, .unset] [(.long q0), (.ref b10), (.ref b10)]))
    obtain ⟨_, _, ⟨T11, L11, k11, n11⟩, -, X11, ⟨Lc11, hQ11, l11, y11, z11⟩, st11⟩ := X10.specialBack hx (y := (⟨"com/example/cordon/cordon/Rng", "<init>", "(J)V"⟩ : MethodName)) rfl hown (mvT hZ (hw _ (List.mem_of_getElem? (i := 3) rfl))) (mvT hZ (hw _ (List.mem_of_getElem? (i := 4) rfl))) (mvT hZ (hw _ (List.mem_of_getElem? (i := 5) rfl))) (by decide) (backOf (W := 1) (rm1 l Z a0 hw [] b10 q0 (0 : Int64) h10 n0 Z10 E_b10_10 F_state_b10_10 ge_b10) hZ (hw _ (List.mem_of_getElem? (i := 5) rfl)) (hw _ (List.mem_of_getElem? (i := 2) rfl)) (by decide) (by decide)) (g := (mkF m 42 #[.val (.long q0), .second, .val (.int p1), .val (.int p2), .val (.int z7), .val (.ref b8), .unset, .unset, .unset, .unset, .unset, .unset, .unset, .unset, .unset, .unset, .unset, .unset] [(.long q0), (.ref b10), (.ref b10)])) rfl (by rw [hml]; rfl) (Steps.refl _) (a := b10) (argsL := [(.long q0)]) (rest := [(.ref b10)]) (lenOf own_pd101 rfl) rfl (by show 2 * 0 + _ ≤ _; exact Nat.le_of_eq rfl) (hb hby at_42) (fun _ _ => ⟨rfl, e10, (by decide : 2 + 0 ≤ _), (by decide : 2 + 0 ≤ _)⟩)
    dsimp only [Pt.U, Pt.locs, Pt.cells, Pt.slots] at X11 l11 y11 z11 st11 hQ11
    replace y11 : 2 = k11 := y11.symm
    replace z11 : 2 = n11 := z11.symm
    subst y11 z11
    obtain ⟨rfl, N11q, Kq11, E_b10_11, F_state_b10_11⟩ := hQ11
    have N11 : Fr n0 L11 := by rw [l11]; exact Fr.app N9 N11q
    have E_b8_11 := E_b8_10.keep Kq11
    have F_state_b8_11 := F_state_b8_10.keep Kq11 (ninS ne_b8_b10 nin0)
    have Z11 : n0 ≤ T11.heap.size := Nat.le_trans Z10 Kq11.1
    refine own_go (fun tg k => st11.trans k) ?_
    show own_Fin _ _ _ _ _ _ _ (T11.setTop (mkF m 45 #[.val (.long q0), .second, .val (.int p1), .val (.int p2), .val (.int z7), .val (.ref b8), .unset, .unset, .unset, .unset, .unset, .unset, .unset, .unset, .unset, .unset, .unset, .unset] [(.ref b10)]))
    refine own_go (fun _ k => XS.astore X11.here hx rfl (hb hby at_45) rfl rfl (l' := #[.val (.long q0), .second, .val (.int p1), .val (.int p2), .val (.int z7), .val (.ref b8), .val (.ref b10), .unset, .unset, .unset, .unset, .unset, .unset, .unset, .unset, .unset, .unset, .unset]) rfl k) ?_
    show own_Fin _ _ _ _ _ _ _ (T11.setTop (mkF m 47 #[.val (.long q0), .second, .val (.int p1), .val (.int p2), .val (.int z7), .val (.ref b8), .val (.ref b10), .unset, .unset, .unset, .unset, .unset, .unset, .unset, .unset, .unset, .unset, .unset] []))
    refine own_go (fun _ k => XS.aload X11.here hx rfl (hb hby at_47) rfl rfl k) ?_
    show own_Fin _ _ _ _ _ _ _ (T11.setTop (mkF m 49 #[.val (.long q0), .second, .val (.int p1), .val (.int p2), .val (.int z7), .val (.ref b8), .val (.ref b10), .unset, .unset, .unset, .unset, .unset, .unset, .unset, .unset, .unset, .unset, .unset] [(.ref b8)]))
    refine own_go (fun _ k => XS.iload X11.here hx rfl (hb hby at_49) rfl k) ?_
    show own_Fin _ _ _ _ _ _ _ (T11.setTop (mkF m 51 #[.val (.long q0), .second, .val (.int p1), .val (.int p2), .val (.int z7), .val (.ref b8), .val (.ref b10), .unset, .unset, .unset, .unset, .unset, .unset, .unset, .unset, .unset, .unset, .unset] [(.int z7), (.ref b8)]))
    obtain ⟨cq12, kq12, q12a, q12b, q12c⟩ := isOf hZ rfl E_b8_11
    obtain ⟨_, _, ⟨T12, L12, k12, n12⟩, -, X12, ⟨Lc12, hQ12, l12, y12, z12⟩, st12⟩ := X11.virtualBack hx (y := (⟨"com/example/cordon/cordon/Rng", "below", "(I)I"⟩ : MethodName)) (z := (⟨"com/example/cordon/cordon/Rng", "below", "(I)I"⟩ : MethodName)) hown (mvT hZ (hw _ (List.mem_of_getElem? (i := 11) rfl))) (mvT hZ (hw _ (List.mem_of_getElem? (i := 12) rfl))) (notFace_of_selects (args := #[]) (mvT hZ (hw _ (List.mem_of_getElem? (i := 14) rfl)))) (mvT hZ (hw _ (List.mem_of_getElem? (i := 14) rfl))) (mvT hZ (hw _ (List.mem_of_getElem? (i := 13) rfl))) (by decide) (backOf (W := 0) (rm3 l Z a0 hw [] b8 z7 q0 T11.heap n0 Z11 E_b8_11 F_state_b8_11 ge_b8 (by rw [← hz7]; exact own_bd _ _)) hZ (hw _ (List.mem_of_getElem? (i := 15) rfl)) (hw _ (List.mem_of_getElem? (i := 2) rfl)) (by decide) (by decide)) q12a q12c (g := (mkF m 51 #[.val (.long q0), .second, .val (.int p1), .val (.int p2), .val (.int z7), .val (.ref b8), .val (.ref b10), .unset, .unset, .unset, .unset, .unset, .unset, .unset, .unset, .unset, .unset, .unset] [(.int z7), (.ref b8)])) rfl (by rw [hml]; rfl) (Steps.refl _) (argsL := [(.int z7)]) (rest := []) (lenOf own_pd102 rfl) rfl (by show 2 * 0 + _ ≤ _; exact Nat.le_of_eq rfl) (hb hby at_51) (fun _ _ => ⟨rfl, rfl, (by decide : 2 + 0 ≤ _), (by decide : 2 + 0 ≤ _)⟩)
    dsimp only [Pt.U, Pt.locs, Pt.cells, Pt.slots] at X12 l12 y12 z12 st12 hQ12
    replace y12 : 2 = k12 := y12.symm
    replace z12 : 2 = n12 := z12.symm
    subst y12 z12
    obtain ⟨rfl, N12q, Kq12, E_b8_12, F_state_b8_12⟩ := hQ12
    have N12 : Fr n0 L12 := by rw [l12]; exact Fr.app N11 N12q
    have E_b10_12 := E_b10_11.keep Kq12
    have F_state_b10_12 := F_state_b10_11.keep Kq12 (ninS (Ne.symm ne_b8_b10) nin0)
    have Z12 : n0 ≤ T12.heap.size := Nat.le_trans Z11 Kq12.1
    refine own_go (fun tg k => st12.trans k) ?_
    show own_Fin _ _ _ _ _ _ _ (T12.setTop (mkF m 54 #[.val (.long q0), .second, .val (.int p1), .val (.int p2), .val (.int z7), .val (.ref b8), .val (.ref b10), .unset, .unset, .unset, .unset, .unset, .unset, .unset, .unset, .unset, .unset, .unset] [(.int ((own_belE q0 z7).1))]))
    refine own_go (fun _ k => XS.istore X12.here hx rfl (hb hby at_54) rfl (l' := #[.val (.long q0), .second, .val (.int p1), .val (.int p2), .val (.int z7), .val (.ref b8), .val (.ref b10), .val (.int ((own_belE q0 z7).1)), .unset, .unset, .unset, .unset, .unset, .unset, .unset, .unset, .unset, .unset]) rfl k) ?_
    show own_Fin _ _ _ _ _ _ _ (T12.setTop (mkF m 56 #[.val (.long q0), .second, .val (.int p1), .val (.int p2), .val (.int z7), .val (.ref b8), .val (.ref b10), .val (.int ((own_belE q0 z7).1)), .unset, .unset, .unset, .unset, .unset, .unset, .unset, .unset, .unset, .unset] []))
    refine own_go (fun _ k => XS.aload X12.here hx rfl (hb hby at_56) rfl rfl k) ?_
    show own_Fin _ _ _ _ _ _ _ (T12.setTop (mkF m 58 #[.val (.long q0), .second, .val (.int p1), .val (.int p2), .val (.int z7), .val (.ref b8), .val (.ref b10), .val (.int ((own_belE q0 z7).1)), .unset, .unset, .unset, .unset, .unset, .unset, .unset, .unset, .unset, .unset] [(.ref b8)]))
    obtain ⟨cq13, kq13, q13a, q13b, q13c⟩ := isOf hZ rfl E_b8_12
    obtain ⟨_, _, ⟨T13, L13, k13, n13⟩, -, X13, ⟨Lc13, hQ13, l13, y13, z13⟩, st13⟩ := X12.virtualBack hx (y := (⟨"com/example/cordon/cordon/Rng", "nextLong", "()J"⟩ : MethodName)) (z := (⟨"com/example/cordon/cordon/Rng", "nextLong", "()J"⟩ : MethodName)) hown (mvT hZ (hw _ (List.mem_of_getElem? (i := 25) rfl))) (mvT hZ (hw _ (List.mem_of_getElem? (i := 18) rfl))) (notFace_of_selects (args := #[]) (mvT hZ (hw _ (List.mem_of_getElem? (i := 20) rfl)))) (mvT hZ (hw _ (List.mem_of_getElem? (i := 20) rfl))) (mvT hZ (hw _ (List.mem_of_getElem? (i := 19) rfl))) (by decide) (backOf (W := 0) (rm4 l Z a0 hw [] b8 ((own_belE q0 z7).2) T12.heap n0 Z12 E_b8_12 F_state_b8_12 ge_b8) hZ (hw _ (List.mem_of_getElem? (i := 21) rfl)) (hw _ (List.mem_of_getElem? (i := 2) rfl)) (by decide) (by decide)) q13a q13c (g := (mkF m 58 #[.val (.long q0), .second, .val (.int p1), .val (.int p2), .val (.int z7), .val (.ref b8), .val (.ref b10), .val (.int ((own_belE q0 z7).1)), .unset, .unset, .unset, .unset, .unset, .unset, .unset, .unset, .unset, .unset] [(.ref b8)])) rfl (by rw [hml]; rfl) (Steps.refl _) (argsL := []) (rest := []) (lenOf own_pd39 rfl) rfl (by show 2 * 0 + _ ≤ _; exact Nat.le_of_eq rfl) (hb hby at_58) (fun _ _ => ⟨rfl, rfl, (by decide : 2 + 0 ≤ _), (by decide : 2 + 0 ≤ _)⟩)
    dsimp only [Pt.U, Pt.locs, Pt.cells, Pt.slots] at X13 l13 y13 z13 st13 hQ13
    replace y13 : 2 = k13 := y13.symm
    replace z13 : 2 = n13 := z13.symm
    subst y13 z13
    obtain ⟨rfl, N13q, Kq13, E_b8_13, F_state_b8_13⟩ := hQ13
    have N13 : Fr n0 L13 := by rw [l13]; exact Fr.app N12 N13q
    have E_b10_13 := E_b10_12.keep Kq13
    have F_state_b10_13 := F_state_b10_12.keep Kq13 (ninS (Ne.symm ne_b8_b10) nin0)
    have Z13 : n0 ≤ T13.heap.size := Nat.le_trans Z12 Kq13.1
    refine own_go (fun tg k => st13.trans k) ?_
    show own_Fin _ _ _ _ _ _ _ (T13.setTop (mkF m 61 #[.val (.long q0), .second, .val (.int p1), .val (.int p2), .val (.int z7), .val (.ref b8), .val (.ref b10), .val (.int ((own_belE q0 z7).1)), .unset, .unset, .unset, .unset, .unset, .unset, .unset, .unset, .unset, .unset] [(.long (own_f4 ((own_belE q0 z7).2)))]))
    refine own_go (fun _ k => XS.lstore X13.here hx rfl (hb hby at_61) rfl (l' := #[.val (.long q0), .second, .val (.int p1), .val (.int p2), .val (.int z7), .val (.ref b8), .val (.ref b10), .val (.int ((own_belE q0 z7).1)), .val (.long (own_f4 ((own_belE q0 z7).2))), .second, .unset, .unset, .unset, .unset, .unset, .unset, .unset, .unset]) rfl k) ?_
    show own_Fin _ _ _ _ _ _ _ (T13.setTop (mkF m 63 #[.val (.long q0), .second, .val (.int p1), .val (.int p2), .val (.int z7), .val (.ref b8), .val (.ref b10), .val (.int ((own_belE q0 z7).1)), .val (.long (own_f4 ((own_belE q0 z7).2))), .second, .unset, .unset, .unset, .unset, .unset, .unset, .unset, .unset] []))
    refine own_go (fun _ k => XS.aload X13.here hx rfl (hb hby at_63) rfl rfl k) ?_
    show own_Fin _ _ _ _ _ _ _ (T13.setTop (mkF m 65 #[.val (.long q0), .second, .val (.int p1), .val (.int p2), .val (.int z7), .val (.ref b8), .val (.ref b10), .val (.int ((own_belE q0 z7).1)), .val (.long (own_f4 ((own_belE q0 z7).2))), .second, .unset, .unset, .unset, .unset, .unset, .unset, .unset, .unset] [(.ref b10)]))
    obtain ⟨cq14, kq14, q14a, q14b, q14c⟩ := isOf hZ rfl E_b10_13
    obtain ⟨_, _, ⟨T14, L14, k14, n14⟩, -, X14, ⟨Lc14, hQ14, l14, y14, z14⟩, st14⟩ := X13.virtualBack hx (y := (⟨"com/example/cordon/cordon/Rng", "nextLong", "()J"⟩ : MethodName)) (z := (⟨"com/example/cordon/cordon/Rng", "nextLong", "()J"⟩ : MethodName)) hown (mvT hZ (hw _ (List.mem_of_getElem? (i := 25) rfl))) (mvT hZ (hw _ (List.mem_of_getElem? (i := 18) rfl))) (notFace_of_selects (args := #[]) (mvT hZ (hw _ (List.mem_of_getElem? (i := 20) rfl)))) (mvT hZ (hw _ (List.mem_of_getElem? (i := 20) rfl))) (mvT hZ (hw _ (List.mem_of_getElem? (i := 19) rfl))) (by decide) (backOf (W := 0) (rm4 l Z a0 hw [] b10 q0 T13.heap n0 Z13 E_b10_13 F_state_b10_13 ge_b10) hZ (hw _ (List.mem_of_getElem? (i := 21) rfl)) (hw _ (List.mem_of_getElem? (i := 2) rfl)) (by decide) (by decide)) q14a q14c (g := (mkF m 65 #[.val (.long q0), .second, .val (.int p1), .val (.int p2), .val (.int z7), .val (.ref b8), .val (.ref b10), .val (.int ((own_belE q0 z7).1)), .val (.long (own_f4 ((own_belE q0 z7).2))), .second, .unset, .unset, .unset, .unset, .unset, .unset, .unset, .unset] [(.ref b10)])) rfl (by rw [hml]; rfl) (Steps.refl _) (argsL := []) (rest := []) (lenOf own_pd39 rfl) rfl (by show 2 * 0 + _ ≤ _; exact Nat.le_of_eq rfl) (hb hby at_65) (fun _ _ => ⟨rfl, rfl, (by decide : 2 + 0 ≤ _), (by decide : 2 + 0 ≤ _)⟩)
    dsimp only [Pt.U, Pt.locs, Pt.cells, Pt.slots] at X14 l14 y14 z14 st14 hQ14
    replace y14 : 2 = k14 := y14.symm
    replace z14 : 2 = n14 := z14.symm
    subst y14 z14
    obtain ⟨rfl, N14q, Kq14, E_b10_14, F_state_b10_14⟩ := hQ14
    have N14 : Fr n0 L14 := by rw [l14]; exact Fr.app N13 N14q
    have E_b8_14 := E_b8_13.keep Kq14
    have F_state_b8_14 := F_state_b8_13.keep Kq14 (ninS ne_b8_b10 nin0)
    have Z14 : n0 ≤ T14.heap.size := Nat.le_trans Z13 Kq14.1
    refine own_go (fun tg k => st14.trans k) ?_
    show own_Fin _ _ _ _ _ _ _ (T14.setTop (mkF m 68 #[.val (.long q0), .second, .val (.int p1), .val (.int p2), .val (.int z7), .val (.ref b8), .val (.ref b10), .val (.int ((own_belE q0 z7).1)), .val (.long (own_f4 ((own_belE q0 z7).2))), .second, .unset, .unset, .unset, .unset, .unset, .unset, .unset, .unset] [(.long (own_f4 q0))]))
    refine own_go (fun _ k => XS.iconst X14.here hx rfl (hb hby at_68) k) ?_
    show own_Fin _ _ _ _ _ _ _ (T14.setTop (mkF m 69 #[.val (.long q0), .second, .val (.int p1), .val (.int p2), .val (.int z7), .val (.ref b8), .val (.ref b10), .val (.int ((own_belE q0 z7).1)), .val (.long (own_f4 ((own_belE q0 z7).2))), .second, .unset, .unset, .unset, .unset, .unset, .unset, .unset, .unset] [(.int (1 : Int32)), (.long (own_f4 q0))]))
    refine own_go (fun _ k => XS.lushr X14.here hx rfl (hb hby at_69) rfl k) ?_
    show own_Fin _ _ _ _ _ _ _ (T14.setTop (mkF m 70 #[.val (.long q0), .second, .val (.int p1), .val (.int p2), .val (.int z7), .val (.ref b8), .val (.ref b10), .val (.int ((own_belE q0 z7).1)), .val (.long (own_f4 ((own_belE q0 z7).2))), .second, .unset, .unset, .unset, .unset, .unset, .unset, .unset, .unset] [(.long (own_lushr (own_f4 q0) (1 : Int32)))]))
    refine own_go (fun _ k => XS.lstore X14.here hx rfl (hb hby at_70) rfl (l' := #[.val (.long q0), .second, .val (.int p1), .val (.int p2), .val (.int z7), .val (.ref b8), .val (.ref b10), .val (.int ((own_belE q0 z7).1)), .val (.long (own_f4 ((own_belE q0 z7).2))), .second, .val (.long (own_lushr (own_f4 q0) (1 : Int32))), .second, .unset, .unset, .unset, .unset, .unset, .unset]) rfl k) ?_
    show own_Fin _ _ _ _ _ _ _ (T14.setTop (mkF m 72 #[.val (.long q0), .second, .val (.int p1), .val (.int p2), .val (.int z7), .val (.ref b8), .val (.ref b10), .val (.int ((own_belE q0 z7).1)), .val (.long (own_f4 ((own_belE q0 z7).2))), .second, .val (.long (own_lushr (own_f4 q0) (1 : Int32))), .second, .unset, .unset, .unset, .unset, .unset, .unset] []))
    generalize hz15 : (own_lushr (own_f4 q0) (1 : Int32)) = z15
    show own_Fin _ _ _ _ _ _ _ (T14.setTop (mkF m 72 #[.val (.long q0), .second, .val (.int p1), .val (.int p2), .val (.int z7), .val (.ref b8), .val (.ref b10), .val (.int ((own_belE q0 z7).1)), .val (.long (own_f4 ((own_belE q0 z7).2))), .second, .val (.long z15), .second, .unset, .unset, .unset, .unset, .unset, .unset] []))
    refine own_go (fun _ k => XS.aload X14.here hx rfl (hb hby at_72) rfl rfl k) ?_
    show own_Fin _ _ _ _ _ _ _ (T14.setTop (mkF m 74 #[.val (.long q0), .second, .val (.int p1), .val (.int p2), .val (.int z7), .val (.ref b8), .val (.ref b10), .val (.int ((own_belE q0 z7).1)), .val (.long (own_f4 ((own_belE q0 z7).2))), .second, .val (.long z15), .second, .unset, .unset, .unset, .unset, .unset, .unset] [(.ref b10)]))
    obtain ⟨cq16, kq16, q16a, q16b, q16c⟩ := isOf hZ rfl E_b10_14
    obtain ⟨_, _, ⟨T16, L16, k16, n16⟩, -, X16, ⟨Lc16, hQ16, l16, y16, z16⟩, st16⟩ := X14.virtualBack hx (y := (⟨"com/example/cordon/cordon/Rng", "nextLong", "()J"⟩ : MethodName)) (z := (⟨"com/example/cordon/cordon/Rng", "nextLong", "()J"⟩ : MethodName)) hown (mvT hZ (hw _ (List.mem_of_getElem? (i := 25) rfl))) (mvT hZ (hw _ (List.mem_of_getElem? (i := 18) rfl))) (notFace_of_selects (args := #[]) (mvT hZ (hw _ (List.mem_of_getElem? (i := 20) rfl)))) (mvT hZ (hw _ (List.mem_of_getElem? (i := 20) rfl))) (mvT hZ (hw _ (List.mem_of_getElem? (i := 19) rfl))) (by decide) (backOf (W := 0) (rm4 l Z a0 hw [] b10 (q0 + (-7046029254386353131 : Int64)) T14.heap n0 Z14 E_b10_14 F_state_b10_14 ge_b10) hZ (hw _ (List.mem_of_getElem? (i := 21) rfl)) (hw _ (List.mem_of_getElem? (i := 2) rfl)) (by decide) (by decide)) q16a q16c (g := (mkF m 74 #[.val (.long q0), .second, .val (.int p1), .val (.int p2), .val (.int z7), .val (.ref b8), .val (.ref b10), .val (.int ((own_belE q0 z7).1)), .val (.long (own_f4 ((own_belE q0 z7).2))), .second, .val (.long z15), .second, .unset, .unset, .unset, .unset, .unset, .unset] [(.ref b10)])) rfl (by rw [hml]; rfl) (Steps.refl _) (argsL := []) (rest := []) (lenOf own_pd39 rfl) rfl (by show 2 * 0 + _ ≤ _; exact Nat.le_of_eq rfl) (hb hby at_74) (fun _ _ => ⟨rfl, rfl, (by decide : 2 + 0 ≤ _), (by decide : 2 + 0 ≤ _)⟩)
    dsimp only [Pt.U, Pt.locs, Pt.cells, Pt.slots] at X16 l16 y16 z16 st16 hQ16
    replace y16 : 2 = k16 := y16.symm
    replace z16 : 2 = n16 := z16.symm
    subst y16 z16
    obtain ⟨rfl, N16q, Kq16, E_b10_16, F_state_b10_16⟩ := hQ16
    have N16 : Fr n0 L16 := by rw [l16]; exact Fr.app N14 N16q
    have E_b8_16 := E_b8_14.keep Kq16
    have F_state_b8_16 := F_state_b8_14.keep Kq16 (ninS ne_b8_b10 nin0)
    have Z16 : n0 ≤ T16.heap.size := Nat.le_trans Z14 Kq16.1
    refine own_go (fun tg k => st16.trans k) ?_
    show own_Fin _ _ _ _ _ _ _ (T16.setTop (mkF m 77 #[.val (.long q0), .second, .val (.int p1), .val (.int p2), .val (.int z7), .val (.ref b8), .val (.ref b10), .val (.int ((own_belE q0 z7).1)), .val (.long (own_f4 ((own_belE q0 z7).2))), .second, .val (.long z15), .second, .unset, .unset, .unset, .unset, .unset, .unset] [(.long (own_f4 (q0 + (-7046029254386353131 : Int64))))]))
    refine own_go (fun _ k => XS.lstore X16.here hx rfl (hb hby at_77) rfl (l' := #[.val (.long q0), .second, .val (.int p1), .val (.int p2), .val (.int z7), .val (.ref b8), .val (.ref b10), .val (.int ((own_belE q0 z7).1)), .val (.long (own_f4 ((own_belE q0 z7).2))), .second, .val (.long z15), .second, .val (.long (own_f4 (q0 + (-7046029254386353131 : Int64)))), .second, .unset, .unset, .unset, .unset]) rfl k) ?_
    show own_Fin _ _ _ _ _ _ _ (T16.setTop (mkF m 79 #[.val (.long q0), .second, .val (.int p1), .val (.int p2), .val (.int z7), .val (.ref b8), .val (.ref b10), .val (.int ((own_belE q0 z7).1)), .val (.long (own_f4 ((own_belE q0 z7).2))), .second, .val (.long z15), .second, .val (.long (own_f4 (q0 + (-7046029254386353131 : Int64)))), .second, .unset, .unset, .unset, .unset] []))
    generalize hz17 : (own_f4 (q0 + (-7046029254386353131 : Int64))) = z17
    show own_Fin _ _ _ _ _ _ _ (T16.setTop (mkF m 79 #[.val (.long q0), .second, .val (.int p1), .val (.int p2), .val (.int z7), .val (.ref b8), .val (.ref b10), .val (.int ((own_belE q0 z7).1)), .val (.long (own_f4 ((own_belE q0 z7).2))), .second, .val (.long z15), .second, .val (.long z17), .second, .unset, .unset, .unset, .unset] []))
    refine own_go (fun _ k => XS.lload X16.here hx rfl (hb hby at_79) rfl k) ?_
    show own_Fin _ _ _ _ _ _ _ (T16.setTop (mkF m 81 #[.val (.long q0), .second, .val (.int p1), .val (.int p2), .val (.int z7), .val (.ref b8), .val (.ref b10), .val (.int ((own_belE q0 z7).1)), .val (.long (own_f4 ((own_belE q0 z7).2))), .second, .val (.long z15), .second, .val (.long z17), .second, .unset, .unset, .unset, .unset] [(.long z15)]))
    refine own_go (fun _ k => XS.iload X16.here hx rfl (hb hby at_81) rfl k) ?_
    show own_Fin _ _ _ _ _ _ _ (T16.setTop (mkF m 83 #[.val (.long q0), .second, .val (.int p1), .val (.int p2), .val (.int z7), .val (.ref b8), .val (.ref b10), .val (.int ((own_belE q0 z7).1)), .val (.long (own_f4 ((own_belE q0 z7).2))), .second, .val (.long z15), .second, .val (.long z17), .second, .unset, .unset, .unset, .unset] [(.int z7), (.long z15)]))
    obtain ⟨_, _, ⟨T18, L18, k18, n18⟩, -, X18, ⟨Lc18, hQ18, l18, y18, z18⟩, st18⟩ := Jvm.LawKit.callS X16 hx (y := (⟨"com/example/cordon/cordon/RngBelowPinLaw", "full", "(JI)Z"⟩ : MethodName)) hown (mvT hZ (hw _ (List.mem_of_getElem? (i := 26) rfl))) (mvT hZ (hw _ (List.mem_of_getElem? (i := 27) rfl))) (mvT hZ (hw _ (List.mem_of_getElem? (i := 28) rfl))) (mvT hZ (hw _ (List.mem_of_getElem? (i := 29) rfl))) (by decide) (backOf (W := 0) (rm5 l Z a0 hw [] z15 z7 T16.heap n0 Z16 (by rw [← hz7]; exact own_bd _ _)) hZ (hw _ (List.mem_of_getElem? (i := 29) rfl)) (hw _ (List.mem_of_getElem? (i := 28) rfl)) (by decide) (by decide)) (g := (mkF m 83 #[.val (.long q0), .second, .val (.int p1), .val (.int p2), .val (.int z7), .val (.ref b8), .val (.ref b10), .val (.int ((own_belE q0 z7).1)), .val (.long (own_f4 ((own_belE q0 z7).2))), .second, .val (.long z15), .second, .val (.long z17), .second, .unset, .unset, .unset, .unset] [(.int z7), (.long z15)])) rfl (by rw [hml]; rfl) (argsL := [(.long z15), (.int z7)]) (rest := []) (lenOf own_pd103 rfl) rfl (by show 2 * 0 + _ ≤ _; exact Nat.le_of_eq rfl) (hb hby at_83) (fun _ _ => ⟨rfl, rfl, (by decide : 2 + 0 ≤ _), (by decide : 2 + 0 ≤ _)⟩)
    dsimp only [Pt.U, Pt.locs, Pt.cells, Pt.slots] at X18 l18 y18 z18 st18 hQ18
    replace y18 : 2 = k18 := y18.symm
    replace z18 : 2 = n18 := z18.symm
    subst y18 z18
    obtain ⟨rfl, N18q, e18⟩ := hQ18
    have N18 : Fr n0 L18 := by rw [l18]; exact Fr.app N16 N18q
    refine own_go (fun tg k => st18 tg k) ?_
    show own_Fin _ _ _ _ _ _ _ (T18.setTop (mkF m 86 #[.val (.long q0), .second, .val (.int p1), .val (.int p2), .val (.int z7), .val (.ref b8), .val (.ref b10), .val (.int ((own_belE q0 z7).1)), .val (.long (own_f4 ((own_belE q0 z7).2))), .second, .val (.long z15), .second, .val (.long z17), .second, .unset, .unset, .unset, .unset] [(.int (own_f5 z15 z7))]))
    by_cases hc19 : (own_f5 z15 z7) = (0 : Int32)
    · refine own_go (fun _ k => XS.ifYes X18.here hx rfl (pc0 := 86) (pc' := 115) rfl (hb hby at_86) rfl ((if0 _ _).trans (teq hc19).1) (by decide) (by decide) k) ?_
      show own_Fin _ _ _ _ _ _ _ (T18.setTop (mkF m 115 #[.val (.long q0), .second, .val (.int p1), .val (.int p2), .val (.int z7), .val (.ref b8), .val (.ref b10), .val (.int ((own_belE q0 z7).1)), .val (.long (own_f4 ((own_belE q0 z7).2))), .second, .val (.long z15), .second, .val (.long z17), .second, .unset, .unset, .unset, .unset] []))
      refine own_go (fun _ k => XS.lload X18.here hx rfl (hb hby at_115) rfl k) ?_
      show own_Fin _ _ _ _ _ _ _ (T18.setTop (mkF m 117 #[.val (.long q0), .second, .val (.int p1), .val (.int p2), .val (.int z7), .val (.ref b8), .val (.ref b10), .val (.int ((own_belE q0 z7).1)), .val (.long (own_f4 ((own_belE q0 z7).2))), .second, .val (.long z15), .second, .val (.long z17), .second, .unset, .unset, .unset, .unset] [(.long z17)]))
      refine own_go (fun _ k => XS.iconst X18.here hx rfl (hb hby at_117) k) ?_
      show own_Fin _ _ _ _ _ _ _ (T18.setTop (mkF m 118 #[.val (.long q0), .second, .val (.int p1), .val (.int p2), .val (.int z7), .val (.ref b8), .val (.ref b10), .val (.int ((own_belE q0 z7).1)), .val (.long (own_f4 ((own_belE q0 z7).2))), .second, .val (.long z15), .second, .val (.long z17), .second, .unset, .unset, .unset, .unset] [(.int (1 : Int32)), (.long z17)]))
      refine own_go (fun _ k => XS.lushr X18.here hx rfl (hb hby at_118) rfl k) ?_
      show own_Fin _ _ _ _ _ _ _ (T18.setTop (mkF m 119 #[.val (.long q0), .second, .val (.int p1), .val (.int p2), .val (.int z7), .val (.ref b8), .val (.ref b10), .val (.int ((own_belE q0 z7).1)), .val (.long (own_f4 ((own_belE q0 z7).2))), .second, .val (.long z15), .second, .val (.long z17), .second, .unset, .unset, .unset, .unset] [(.long (own_lushr z17 (1 : Int32)))]))
      refine own_go (fun _ k => XS.lstore X18.here hx rfl (hb hby at_119) rfl (l' := #[.val (.long q0), .second, .val (.int p1), .val (.int p2), .val (.int z7), .val (.ref b8), .val (.ref b10), .val (.int ((own_belE q0 z7).1)), .val (.long (own_f4 ((own_belE q0 z7).2))), .second, .val (.long z15), .second, .val (.long z17), .second, .val (.long (own_lushr z17 (1 : Int32))), .second, .unset, .unset]) rfl k) ?_
      show own_Fin _ _ _ _ _ _ _ (T18.setTop (mkF m 121 #[.val (.long q0), .second, .val (.int p1), .val (.int p2), .val (.int z7), .val (.ref b8), .val (.ref b10), .val (.int ((own_belE q0 z7).1)), .val (.long (own_f4 ((own_belE q0 z7).2))), .second, .val (.long z15), .second, .val (.long z17), .second, .val (.long (own_lushr z17 (1 : Int32))), .second, .unset, .unset] []))
      refine own_go (fun _ k => XS.aload X18.here hx rfl (hb hby at_121) rfl rfl k) ?_
      show own_Fin _ _ _ _ _ _ _ (T18.setTop (mkF m 123 #[.val (.long q0), .second, .val (.int p1), .val (.int p2), .val (.int z7), .val (.ref b8), .val (.ref b10), .val (.int ((own_belE q0 z7).1)), .val (.long (own_f4 ((own_belE q0 z7).2))), .second, .val (.long z15), .second, .val (.long z17), .second, .val (.long (own_lushr z17 (1 : Int32))), .second, .unset, .unset] [(.ref b10)]))
      obtain ⟨cq20, kq20, q20a, q20b, q20c⟩ := isOf hZ e18 E_b10_16
      obtain ⟨_, _, ⟨T20, L20, k20, n20⟩, -, X20, ⟨Lc20, hQ20, l20, y20, z20⟩, st20⟩ := X18.virtualBack hx (y := (⟨"com/example/cordon/cordon/Rng", "nextLong", "()J"⟩ : MethodName)) (z := (⟨"com/example/cordon/cordon/Rng", "nextLong", "()J"⟩ : MethodName)) hown (mvT hZ (hw _ (List.mem_of_getElem? (i := 25) rfl))) (mvT hZ (hw _ (List.mem_of_getElem? (i := 18) rfl))) (notFace_of_selects (args := #[]) (mvT hZ (hw _ (List.mem_of_getElem? (i := 20) rfl)))) (mvT hZ (hw _ (List.mem_of_getElem? (i := 20) rfl))) (mvT hZ (hw _ (List.mem_of_getElem? (i := 19) rfl))) (by decide) (backOf (W := 0) (rm4 l Z a0 hw [] b10 ((q0 + (-7046029254386353131 : Int64)) + (-7046029254386353131 : Int64)) T16.heap n0 Z16 E_b10_16 F_state_b10_16 ge_b10) hZ (hw _ (List.mem_of_getElem? (i := 21) rfl)) (hw _ (List.mem_of_getElem? (i := 2) rfl)) (by decide) (by decide)) q20a q20c (g := (mkF m 123 #[.val (.long q0), .second, .val (.int p1), .val (.int p2), .val (.int z7), .val (.ref b8), .val (.ref b10), .val (.int ((own_belE q0 z7).1)), .val (.long (own_f4 ((own_belE q0 z7).2))), .second, .val (.long z15), .second, .val (.long z17), .second, .val (.long (own_lushr z17 (1 : Int32))), .second, .unset, .unset] [(.ref b10)])) rfl (by rw [hml]; rfl) (Steps.refl _) (argsL := []) (rest := []) (lenOf own_pd39 rfl) rfl (by show 2 * 0 + _ ≤ _; exact Nat.le_of_eq rfl) (hb hby at_123) (fun _ _ => ⟨rfl, e18, (by decide : 2 + 0 ≤ _), (by decide : 2 + 0 ≤ _)⟩)
      dsimp only [Pt.U, Pt.locs, Pt.cells, Pt.slots] at X20 l20 y20 z20 st20 hQ20
      replace y20 : 2 = k20 := y20.symm
      replace z20 : 2 = n20 := z20.symm
      subst y20 z20
      obtain ⟨rfl, N20q, Kq20, E_b10_20, F_state_b10_20⟩ := hQ20
      have N20 : Fr n0 L20 := by rw [l20]; exact Fr.app N18 N20q
      have E_b8_20 := E_b8_16.keep Kq20
      have F_state_b8_20 := F_state_b8_16.keep Kq20 (ninS ne_b8_b10 nin0)
      have Z20 : n0 ≤ T20.heap.size := Nat.le_trans Z16 Kq20.1
      refine own_go (fun tg k => st20.trans k) ?_
      show own_Fin _ _ _ _ _ _ _ (T20.setTop (mkF m 126 #[.val (.long q0), .second, .val (.int p1), .val (.int p2), .val (.int z7), .val (.ref b8), .val (.ref b10), .val (.int ((own_belE q0 z7).1)), .val (.long (own_f4 ((own_belE q0 z7).2))), .second, .val (.long z15), .second, .val (.long z17), .second, .val (.long (own_lushr z17 (1 : Int32))), .second, .unset, .unset] [(.long (own_f4 ((q0 + (-7046029254386353131 : Int64)) + (-7046029254386353131 : Int64))))]))
      refine own_go (fun _ k => XS.lstore X20.here hx rfl (hb hby at_126) rfl (l' := #[.val (.long q0), .second, .val (.int p1), .val (.int p2), .val (.int z7), .val (.ref b8), .val (.ref b10), .val (.int ((own_belE q0 z7).1)), .val (.long (own_f4 ((own_belE q0 z7).2))), .second, .val (.long z15), .second, .val (.long z17), .second, .val (.long (own_lushr z17 (1 : Int32))), .second, .val (.long (own_f4 ((q0 + (-7046029254386353131 : Int64)) + (-7046029254386353131 : Int64)))), .second]) rfl k) ?_
      show own_Fin _ _ _ _ _ _ _ (T20.setTop (mkF m 128 #[.val (.long q0), .second, .val (.int p1), .val (.int p2), .val (.int z7), .val (.ref b8), .val (.ref b10), .val (.int ((own_belE q0 z7).1)), .val (.long (own_f4 ((own_belE q0 z7).2))), .second, .val (.long z15), .second, .val (.long z17), .second, .val (.long (own_lushr z17 (1 : Int32))), .second, .val (.long (own_f4 ((q0 + (-7046029254386353131 : Int64)) + (-7046029254386353131 : Int64)))), .second] []))
      generalize hz21 : (own_f4 ((q0 + (-7046029254386353131 : Int64)) + (-7046029254386353131 : Int64))) = z21
      show own_Fin _ _ _ _ _ _ _ (T20.setTop (mkF m 128 #[.val (.long q0), .second, .val (.int p1), .val (.int p2), .val (.int z7), .val (.ref b8), .val (.ref b10), .val (.int ((own_belE q0 z7).1)), .val (.long (own_f4 ((own_belE q0 z7).2))), .second, .val (.long z15), .second, .val (.long z17), .second, .val (.long (own_lushr z17 (1 : Int32))), .second, .val (.long z21), .second] []))
      refine own_go (fun _ k => XS.lload X20.here hx rfl (hb hby at_128) rfl k) ?_
      show own_Fin _ _ _ _ _ _ _ (T20.setTop (mkF m 130 #[.val (.long q0), .second, .val (.int p1), .val (.int p2), .val (.int z7), .val (.ref b8), .val (.ref b10), .val (.int ((own_belE q0 z7).1)), .val (.long (own_f4 ((own_belE q0 z7).2))), .second, .val (.long z15), .second, .val (.long z17), .second, .val (.long (own_lushr z17 (1 : Int32))), .second, .val (.long z21), .second] [(.long (own_lushr z17 (1 : Int32)))]))
      refine own_go (fun _ k => XS.iload X20.here hx rfl (hb hby at_130) rfl k) ?_
      show own_Fin _ _ _ _ _ _ _ (T20.setTop (mkF m 132 #[.val (.long q0), .second, .val (.int p1), .val (.int p2), .val (.int z7), .val (.ref b8), .val (.ref b10), .val (.int ((own_belE q0 z7).1)), .val (.long (own_f4 ((own_belE q0 z7).2))), .second, .val (.long z15), .second, .val (.long z17), .second, .val (.long (own_lushr z17 (1 : Int32))), .second, .val (.long z21), .second] [(.int z7), (.long (own_lushr z17 (1 : Int32)))]))
      obtain ⟨_, _, ⟨T22, L22, k22, n22⟩, -, X22, ⟨Lc22, hQ22, l22, y22, z22⟩, st22⟩ := Jvm.LawKit.callS X20 hx (y := (⟨"com/example/cordon/cordon/RngBelowPinLaw", "full", "(JI)Z"⟩ : MethodName)) hown (mvT hZ (hw _ (List.mem_of_getElem? (i := 26) rfl))) (mvT hZ (hw _ (List.mem_of_getElem? (i := 27) rfl))) (mvT hZ (hw _ (List.mem_of_getElem? (i := 28) rfl))) (mvT hZ (hw _ (List.mem_of_getElem? (i := 29) rfl))) (by decide) (backOf (W := 0) (rm5 l Z a0 hw [] (own_lushr z17 (1 : Int32)) z7 T20.heap n0 Z20 (by rw [← hz7]; exact own_bd _ _)) hZ (hw _ (List.mem_of_getElem? (i := 29) rfl)) (hw _ (List.mem_of_getElem? (i := 28) rfl)) (by decide) (by decide)) (g := (mkF m 132 #[.val (.long q0), .second, .val (.int p1), .val (.int p2), .val (.int z7), .val (.ref b8), .val (.ref b10), .val (.int ((own_belE q0 z7).1)), .val (.long (own_f4 ((own_belE q0 z7).2))), .second, .val (.long z15), .second, .val (.long z17), .second, .val (.long (own_lushr z17 (1 : Int32))), .second, .val (.long z21), .second] [(.int z7), (.long (own_lushr z17 (1 : Int32)))])) rfl (by rw [hml]; rfl) (argsL := [(.long (own_lushr z17 (1 : Int32))), (.int z7)]) (rest := []) (lenOf own_pd103 rfl) rfl (by show 2 * 0 + _ ≤ _; exact Nat.le_of_eq rfl) (hb hby at_132) (fun _ _ => ⟨rfl, rfl, (by decide : 2 + 0 ≤ _), (by decide : 2 + 0 ≤ _)⟩)
      dsimp only [Pt.U, Pt.locs, Pt.cells, Pt.slots] at X22 l22 y22 z22 st22 hQ22
      replace y22 : 2 = k22 := y22.symm
      replace z22 : 2 = n22 := z22.symm
      subst y22 z22
      obtain ⟨rfl, N22q, e22⟩ := hQ22
      have N22 : Fr n0 L22 := by rw [l22]; exact Fr.app N20 N22q
      refine own_go (fun tg k => st22 tg k) ?_
      show own_Fin _ _ _ _ _ _ _ (T22.setTop (mkF m 135 #[.val (.long q0), .second, .val (.int p1), .val (.int p2), .val (.int z7), .val (.ref b8), .val (.ref b10), .val (.int ((own_belE q0 z7).1)), .val (.long (own_f4 ((own_belE q0 z7).2))), .second, .val (.long z15), .second, .val (.long z17), .second, .val (.long (own_lushr z17 (1 : Int32))), .second, .val (.long z21), .second] [(.int (own_f5 (own_lushr z17 (1 : Int32)) z7))]))
      by_cases hc23 : (own_f5 (own_lushr z17 (1 : Int32)) z7) = (0 : Int32)
      · refine own_go (fun _ k => XS.ifYes X22.here hx rfl (pc0 := 135) (pc' := 164) rfl (hb hby at_135) rfl ((if0 _ _).trans (teq hc23).1) (by decide) (by decide) k) ?_
        show own_Fin _ _ _ _ _ _ _ (T22.setTop (mkF m 164 #[.val (.long q0), .second, .val (.int p1), .val (.int p2), .val (.int z7), .val (.ref b8), .val (.ref b10), .val (.int ((own_belE q0 z7).1)), .val (.long (own_f4 ((own_belE q0 z7).2))), .second, .val (.long z15), .second, .val (.long z17), .second, .val (.long (own_lushr z17 (1 : Int32))), .second, .val (.long z21), .second] []))
        refine own_go (fun _ k => XS.iconst X22.here hx rfl (hb hby at_164) k) ?_
        show own_Fin _ _ _ _ _ _ _ (T22.setTop (mkF m 165 #[.val (.long q0), .second, .val (.int p1), .val (.int p2), .val (.int z7), .val (.ref b8), .val (.ref b10), .val (.int ((own_belE q0 z7).1)), .val (.long (own_f4 ((own_belE q0 z7).2))), .second, .val (.long z15), .second, .val (.long z17), .second, .val (.long (own_lushr z17 (1 : Int32))), .second, .val (.long z21), .second] [(.int (1 : Int32))]))
        refine own_ret X22 hx hlk Bd.returns rfl (Or.inl ⟨rfl, by simp, _, rfl⟩) (hb hby at_165) (Nat.le_of_ble_eq_true rfl) (Nat.le_of_ble_eq_true rfl) ?_
        exact ⟨(own_lf_own_f0_1 (q0 := q0) (p1 := p1) (p2 := p2) hz7 hz15 hz17 hc19 hc23), N22, trivial⟩
      · refine own_go (fun _ k => XS.ifNo X22.here hx rfl (hb hby at_135) rfl ((if0 _ _).trans (feq hc23).1) k) ?_
        show own_Fin _ _ _ _ _ _ _ (T22.setTop (mkF m 138 #[.val (.long q0), .second, .val (.int p1), .val (.int p2), .val (.int z7), .val (.ref b8), .val (.ref b10), .val (.int ((own_belE q0 z7).1)), .val (.long (own_f4 ((own_belE q0 z7).2))), .second, .val (.long z15), .second, .val (.long z17), .second, .val (.long (own_lushr z17 (1 : Int32))), .second, .val (.long z21), .second] []))
        refine own_go (fun _ k => XS.iload X22.here hx rfl (hb hby at_138) rfl k) ?_
        show own_Fin _ _ _ _ _ _ _ (T22.setTop (mkF m 140 #[.val (.long q0), .second, .val (.int p1), .val (.int p2), .val (.int z7), .val (.ref b8), .val (.ref b10), .val (.int ((own_belE q0 z7).1)), .val (.long (own_f4 ((own_belE q0 z7).2))), .second, .val (.long z15), .second, .val (.long z17), .second, .val (.long (own_lushr z17 (1 : Int32))), .second, .val (.long z21), .second] [(.int ((own_belE q0 z7).1))]))
        refine own_go (fun _ k => XS.lload X22.here hx rfl (hb hby at_140) rfl k) ?_
        show own_Fin _ _ _ _ _ _ _ (T22.setTop (mkF m 142 #[.val (.long q0), .second, .val (.int p1), .val (.int p2), .val (.int z7), .val (.ref b8), .val (.ref b10), .val (.int ((own_belE q0 z7).1)), .val (.long (own_f4 ((own_belE q0 z7).2))), .second, .val (.long z15), .second, .val (.long z17), .second, .val (.long (own_lushr z17 (1 : Int32))), .second, .val (.long z21), .second] [(.long (own_lushr z17 (1 : Int32))), (.int ((own_belE q0 z7).1))]))
        refine own_go (fun _ k => XS.iload X22.here hx rfl (hb hby at_142) rfl k) ?_
        show own_Fin _ _ _ _ _ _ _ (T22.setTop (mkF m 144 #[.val (.long q0), .second, .val (.int p1), .val (.int p2), .val (.int z7), .val (.ref b8), .val (.ref b10), .val (.int ((own_belE q0 z7).1)), .val (.long (own_f4 ((own_belE q0 z7).2))), .second, .val (.long z15), .second, .val (.long z17), .second, .val (.long (own_lushr z17 (1 : Int32))), .second, .val (.long z21), .second] [(.int z7), (.long (own_lushr z17 (1 : Int32))), (.int ((own_belE q0 z7).1))]))
        refine own_go (fun _ k => XS.i2l X22.here hx rfl (hb hby at_144) rfl k) ?_
        show own_Fin _ _ _ _ _ _ _ (T22.setTop (mkF m 145 #[.val (.long q0), .second, .val (.int p1), .val (.int p2), .val (.int z7), .val (.ref b8), .val (.ref b10), .val (.int ((own_belE q0 z7).1)), .val (.long (own_f4 ((own_belE q0 z7).2))), .second, .val (.long z15), .second, .val (.long z17), .second, .val (.long (own_lushr z17 (1 : Int32))), .second, .val (.long z21), .second] [(.long (z7.toInt64)), (.long (own_lushr z17 (1 : Int32))), (.int ((own_belE q0 z7).1))]))
        refine own_go (fun _ k => own_lrem X22.here hx rfl (hb hby at_145) rfl (by rw [← hz7]; exact own_bnz (own_bd _ _)) k) ?_
        show own_Fin _ _ _ _ _ _ _ (T22.setTop (mkF m 146 #[.val (.long q0), .second, .val (.int p1), .val (.int p2), .val (.int z7), .val (.ref b8), .val (.ref b10), .val (.int ((own_belE q0 z7).1)), .val (.long (own_f4 ((own_belE q0 z7).2))), .second, .val (.long z15), .second, .val (.long z17), .second, .val (.long (own_lushr z17 (1 : Int32))), .second, .val (.long z21), .second] [(.long ((own_lushr z17 (1 : Int32)) % (z7.toInt64))), (.int ((own_belE q0 z7).1))]))
        refine own_go (fun _ k => XS.l2i X22.here hx rfl (hb hby at_146) rfl k) ?_
        show own_Fin _ _ _ _ _ _ _ (T22.setTop (mkF m 147 #[.val (.long q0), .second, .val (.int p1), .val (.int p2), .val (.int z7), .val (.ref b8), .val (.ref b10), .val (.int ((own_belE q0 z7).1)), .val (.long (own_f4 ((own_belE q0 z7).2))), .second, .val (.long z15), .second, .val (.long z17), .second, .val (.long (own_lushr z17 (1 : Int32))), .second, .val (.long z21), .second] [(.int (((own_lushr z17 (1 : Int32)) % (z7.toInt64)).toInt32)), (.int ((own_belE q0 z7).1))]))
        by_cases hc24 : ((own_belE q0 z7).1) = (((own_lushr z17 (1 : Int32)) % (z7.toInt64)).toInt32)
        · refine own_go (fun _ k => XS.icmpNo X22.here hx rfl (hb hby at_147) rfl (teq hc24).2 k) ?_
          show own_Fin _ _ _ _ _ _ _ (T22.setTop (mkF m 150 #[.val (.long q0), .second, .val (.int p1), .val (.int p2), .val (.int z7), .val (.ref b8), .val (.ref b10), .val (.int ((own_belE q0 z7).1)), .val (.long (own_f4 ((own_belE q0 z7).2))), .second, .val (.long z15), .second, .val (.long z17), .second, .val (.long (own_lushr z17 (1 : Int32))), .second, .val (.long z21), .second] []))
          refine own_go (fun _ k => XS.lload X22.here hx rfl (hb hby at_150) rfl k) ?_
          show own_Fin _ _ _ _ _ _ _ (T22.setTop (mkF m 152 #[.val (.long q0), .second, .val (.int p1), .val (.int p2), .val (.int z7), .val (.ref b8), .val (.ref b10), .val (.int ((own_belE q0 z7).1)), .val (.long (own_f4 ((own_belE q0 z7).2))), .second, .val (.long z15), .second, .val (.long z17), .second, .val (.long (own_lushr z17 (1 : Int32))), .second, .val (.long z21), .second] [(.long (own_f4 ((own_belE q0 z7).2)))]))
          refine own_go (fun _ k => XS.lload X22.here hx rfl (hb hby at_152) rfl k) ?_
          show own_Fin _ _ _ _ _ _ _ (T22.setTop (mkF m 154 #[.val (.long q0), .second, .val (.int p1), .val (.int p2), .val (.int z7), .val (.ref b8), .val (.ref b10), .val (.int ((own_belE q0 z7).1)), .val (.long (own_f4 ((own_belE q0 z7).2))), .second, .val (.long z15), .second, .val (.long z17), .second, .val (.long (own_lushr z17 (1 : Int32))), .second, .val (.long z21), .second] [(.long z21), (.long (own_f4 ((own_belE q0 z7).2)))]))
          refine own_go (fun _ k => XS.lcmp X22.here hx rfl (hb hby at_154) rfl k) ?_
          show own_Fin _ _ _ _ _ _ _ (T22.setTop (mkF m 155 #[.val (.long q0), .second, .val (.int p1), .val (.int p2), .val (.int z7), .val (.ref b8), .val (.ref b10), .val (.int ((own_belE q0 z7).1)), .val (.long (own_f4 ((own_belE q0 z7).2))), .second, .val (.long z15), .second, .val (.long z17), .second, .val (.long (own_lushr z17 (1 : Int32))), .second, .val (.long z21), .second] [(.int (lcmpW (own_f4 ((own_belE q0 z7).2)) z21))]))
          by_cases hc25 : (own_f4 ((own_belE q0 z7).2)) = z21
          · refine own_go (fun _ k => XS.ifNo X22.here hx rfl (hb hby at_155) rfl ((if0 _ _).trans (teq ((lw_eq _ _).mpr hc25)).2) k) ?_
            show own_Fin _ _ _ _ _ _ _ (T22.setTop (mkF m 158 #[.val (.long q0), .second, .val (.int p1), .val (.int p2), .val (.int z7), .val (.ref b8), .val (.ref b10), .val (.int ((own_belE q0 z7).1)), .val (.long (own_f4 ((own_belE q0 z7).2))), .second, .val (.long z15), .second, .val (.long z17), .second, .val (.long (own_lushr z17 (1 : Int32))), .second, .val (.long z21), .second] []))
            refine own_go (fun _ k => XS.iconst X22.here hx rfl (hb hby at_158) k) ?_
            show own_Fin _ _ _ _ _ _ _ (T22.setTop (mkF m 159 #[.val (.long q0), .second, .val (.int p1), .val (.int p2), .val (.int z7), .val (.ref b8), .val (.ref b10), .val (.int ((own_belE q0 z7).1)), .val (.long (own_f4 ((own_belE q0 z7).2))), .second, .val (.long z15), .second, .val (.long z17), .second, .val (.long (own_lushr z17 (1 : Int32))), .second, .val (.long z21), .second] [(.int (1 : Int32))]))
            refine own_go (fun _ k => XS.goto X22.here hx rfl (pc0 := 159) (pc' := 163) rfl (hb hby at_159) (by decide) (by decide) k) ?_
            show own_Fin _ _ _ _ _ _ _ (T22.setTop (mkF m 163 #[.val (.long q0), .second, .val (.int p1), .val (.int p2), .val (.int z7), .val (.ref b8), .val (.ref b10), .val (.int ((own_belE q0 z7).1)), .val (.long (own_f4 ((own_belE q0 z7).2))), .second, .val (.long z15), .second, .val (.long z17), .second, .val (.long (own_lushr z17 (1 : Int32))), .second, .val (.long z21), .second] [(.int (1 : Int32))]))
            refine own_ret X22 hx hlk Bd.returns rfl (Or.inl ⟨rfl, by simp, _, rfl⟩) (hb hby at_163) (Nat.le_of_ble_eq_true rfl) (Nat.le_of_ble_eq_true rfl) ?_
            exact ⟨(own_lf_own_f0_2 (q0 := q0) (p1 := p1) (p2 := p2) hz7 hz15 hz17 hz21 hc19 hc23 hc24 hc25), N22, trivial⟩
          · refine own_go (fun _ k => XS.ifYes X22.here hx rfl (pc0 := 155) (pc' := 162) rfl (hb hby at_155) rfl ((if0 _ _).trans (feq (mt (lw_eq _ _).mp hc25)).2) (by decide) (by decide) k) ?_
            show own_Fin _ _ _ _ _ _ _ (T22.setTop (mkF m 162 #[.val (.long q0), .second, .val (.int p1), .val (.int p2), .val (.int z7), .val (.ref b8), .val (.ref b10), .val (.int ((own_belE q0 z7).1)), .val (.long (own_f4 ((own_belE q0 z7).2))), .second, .val (.long z15), .second, .val (.long z17), .second, .val (.long (own_lushr z17 (1 : Int32))), .second, .val (.long z21), .second] []))
            refine own_go (fun _ k => XS.iconst X22.here hx rfl (hb hby at_162) k) ?_
            show own_Fin _ _ _ _ _ _ _ (T22.setTop (mkF m 163 #[.val (.long q0), .second, .val (.int p1), .val (.int p2), .val (.int z7), .val (.ref b8), .val (.ref b10), .val (.int ((own_belE q0 z7).1)), .val (.long (own_f4 ((own_belE q0 z7).2))), .second, .val (.long z15), .second, .val (.long z17), .second, .val (.long (own_lushr z17 (1 : Int32))), .second, .val (.long z21), .second] [(.int (0 : Int32))]))
            refine own_ret X22 hx hlk Bd.returns rfl (Or.inl ⟨rfl, by simp, _, rfl⟩) (hb hby at_163) (Nat.le_of_ble_eq_true rfl) (Nat.le_of_ble_eq_true rfl) ?_
            exact ⟨(own_lf_own_f0_3 (q0 := q0) (p1 := p1) (p2 := p2) hz7 hz15 hz17 hz21 hc19 hc23 hc24 hc25), N22, trivial⟩
        · refine own_go (fun _ k => XS.icmpYes X22.here hx rfl (pc0 := 147) (pc' := 162) rfl (hb hby at_147) rfl (feq hc24).2 (by decide) (by decide) k) ?_
          show own_Fin _ _ _ _ _ _ _ (T22.setTop (mkF m 162 #[.val (.long q0), .second, .val (.int p1), .val (.int p2), .val (.int z7), .val (.ref b8), .val (.ref b10), .val (.int ((own_belE q0 z7).1)), .val (.long (own_f4 ((own_belE q0 z7).2))), .second, .val (.long z15), .second, .val (.long z17), .second, .val (.long (own_lushr z17 (1 : Int32))), .second, .val (.long z21), .second] []))
          refine own_go (fun _ k => XS.iconst X22.here hx rfl (hb hby at_162) k) ?_
          show own_Fin _ _ _ _ _ _ _ (T22.setTop (mkF m 163 #[.val (.long q0), .second, .val (.int p1), .val (.int p2), .val (.int z7), .val (.ref b8), .val (.ref b10), .val (.int ((own_belE q0 z7).1)), .val (.long (own_f4 ((own_belE q0 z7).2))), .second, .val (.long z15), .second, .val (.long z17), .second, .val (.long (own_lushr z17 (1 : Int32))), .second, .val (.long z21), .second] [(.int (0 : Int32))]))
          refine own_ret X22 hx hlk Bd.returns rfl (Or.inl ⟨rfl, by simp, _, rfl⟩) (hb hby at_163) (Nat.le_of_ble_eq_true rfl) (Nat.le_of_ble_eq_true rfl) ?_
          exact ⟨(own_lf_own_f0_4 (q0 := q0) (p1 := p1) (p2 := p2) hz7 hz15 hz17 hc19 hc23 hc24), N22, trivial⟩
    · refine own_go (fun _ k => XS.ifNo X18.here hx rfl (hb hby at_86) rfl ((if0 _ _).trans (feq hc19).1) k) ?_
      show own_Fin _ _ _ _ _ _ _ (T18.setTop (mkF m 89 #[.val (.long q0), .second, .val (.int p1), .val (.int p2), .val (.int z7), .val (.ref b8), .val (.ref b10), .val (.int ((own_belE q0 z7).1)), .val (.long (own_f4 ((own_belE q0 z7).2))), .second, .val (.long z15), .second, .val (.long z17), .second, .unset, .unset, .unset, .unset] []))
      refine own_go (fun _ k => XS.iload X18.here hx rfl (hb hby at_89) rfl k) ?_
      show own_Fin _ _ _ _ _ _ _ (T18.setTop (mkF m 91 #[.val (.long q0), .second, .val (.int p1), .val (.int p2), .val (.int z7), .val (.ref b8), .val (.ref b10), .val (.int ((own_belE q0 z7).1)), .val (.long (own_f4 ((own_belE q0 z7).2))), .second, .val (.long z15), .second, .val (.long z17), .second, .unset, .unset, .unset, .unset] [(.int ((own_belE q0 z7).1))]))
      refine own_go (fun _ k => XS.lload X18.here hx rfl (hb hby at_91) rfl k) ?_
      show own_Fin _ _ _ _ _ _ _ (T18.setTop (mkF m 93 #[.val (.long q0), .second, .val (.int p1), .val (.int p2), .val (.int z7), .val (.ref b8), .val (.ref b10), .val (.int ((own_belE q0 z7).1)), .val (.long (own_f4 ((own_belE q0 z7).2))), .second, .val (.long z15), .second, .val (.long z17), .second, .unset, .unset, .unset, .unset] [(.long z15), (.int ((own_belE q0 z7).1))]))
      refine own_go (fun _ k => XS.iload X18.here hx rfl (hb hby at_93) rfl k) ?_
      show own_Fin _ _ _ _ _ _ _ (T18.setTop (mkF m 95 #[.val (.long q0), .second, .val (.int p1), .val (.int p2), .val (.int z7), .val (.ref b8), .val (.ref b10), .val (.int ((own_belE q0 z7).1)), .val (.long (own_f4 ((own_belE q0 z7).2))), .second, .val (.long z15), .second, .val (.long z17), .second, .unset, .unset, .unset, .unset] [(.int z7), (.long z15), (.int ((own_belE q0 z7).1))]))
      refine own_go (fun _ k => XS.i2l X18.here hx rfl (hb hby at_95) rfl k) ?_
      show own_Fin _ _ _ _ _ _ _ (T18.setTop (mkF m 96 #[.val (.long q0), .second, .val (.int p1), .val (.int p2), .val (.int z7), .val (.ref b8), .val (.ref b10), .val (.int ((own_belE q0 z7).1)), .val (.long (own_f4 ((own_belE q0 z7).2))), .second, .val (.long z15), .second, .val (.long z17), .second, .unset, .unset, .unset, .unset] [(.long (z7.toInt64)), (.long z15), (.int ((own_belE q0 z7).1))]))
      refine own_go (fun _ k => own_lrem X18.here hx rfl (hb hby at_96) rfl (by rw [← hz7]; exact own_bnz (own_bd _ _)) k) ?_
      show own_Fin _ _ _ _ _ _ _ (T18.setTop (mkF m 97 #[.val (.long q0), .second, .val (.int p1), .val (.int p2), .val (.int z7), .val (.ref b8), .val (.ref b10), .val (.int ((own_belE q0 z7).1)), .val (.long (own_f4 ((own_belE q0 z7).2))), .second, .val (.long z15), .second, .val (.long z17), .second, .unset, .unset, .unset, .unset] [(.long (z15 % (z7.toInt64))), (.int ((own_belE q0 z7).1))]))
      refine own_go (fun _ k => XS.l2i X18.here hx rfl (hb hby at_97) rfl k) ?_
      show own_Fin _ _ _ _ _ _ _ (T18.setTop (mkF m 98 #[.val (.long q0), .second, .val (.int p1), .val (.int p2), .val (.int z7), .val (.ref b8), .val (.ref b10), .val (.int ((own_belE q0 z7).1)), .val (.long (own_f4 ((own_belE q0 z7).2))), .second, .val (.long z15), .second, .val (.long z17), .second, .unset, .unset, .unset, .unset] [(.int ((z15 % (z7.toInt64)).toInt32)), (.int ((own_belE q0 z7).1))]))
      by_cases hc26 : ((own_belE q0 z7).1) = ((z15 % (z7.toInt64)).toInt32)
      · refine own_go (fun _ k => XS.icmpNo X18.here hx rfl (hb hby at_98) rfl (teq hc26).2 k) ?_
        show own_Fin _ _ _ _ _ _ _ (T18.setTop (mkF m 101 #[.val (.long q0), .second, .val (.int p1), .val (.int p2), .val (.int z7), .val (.ref b8), .val (.ref b10), .val (.int ((own_belE q0 z7).1)), .val (.long (own_f4 ((own_belE q0 z7).2))), .second, .val (.long z15), .second, .val (.long z17), .second, .unset, .unset, .unset, .unset] []))
        refine own_go (fun _ k => XS.lload X18.here hx rfl (hb hby at_101) rfl k) ?_
        show own_Fin _ _ _ _ _ _ _ (T18.setTop (mkF m 103 #[.val (.long q0), .second, .val (.int p1), .val (.int p2), .val (.int z7), .val (.ref b8), .val (.ref b10), .val (.int ((own_belE q0 z7).1)), .val (.long (own_f4 ((own_belE q0 z7).2))), .second, .val (.long z15), .second, .val (.long z17), .second, .unset, .unset, .unset, .unset] [(.long (own_f4 ((own_belE q0 z7).2)))]))
        refine own_go (fun _ k => XS.lload X18.here hx rfl (hb hby at_103) rfl k) ?_
        show own_Fin _ _ _ _ _ _ _ (T18.setTop (mkF m 105 #[.val (.long q0), .second, .val (.int p1), .val (.int p2), .val (.int z7), .val (.ref b8), .val (.ref b10), .val (.int ((own_belE q0 z7).1)), .val (.long (own_f4 ((own_belE q0 z7).2))), .second, .val (.long z15), .second, .val (.long z17), .second, .unset, .unset, .unset, .unset] [(.long z17), (.long (own_f4 ((own_belE q0 z7).2)))]))
        refine own_go (fun _ k => XS.lcmp X18.here hx rfl (hb hby at_105) rfl k) ?_
        show own_Fin _ _ _ _ _ _ _ (T18.setTop (mkF m 106 #[.val (.long q0), .second, .val (.int p1), .val (.int p2), .val (.int z7), .val (.ref b8), .val (.ref b10), .val (.int ((own_belE q0 z7).1)), .val (.long (own_f4 ((own_belE q0 z7).2))), .second, .val (.long z15), .second, .val (.long z17), .second, .unset, .unset, .unset, .unset] [(.int (lcmpW (own_f4 ((own_belE q0 z7).2)) z17))]))
        by_cases hc27 : (own_f4 ((own_belE q0 z7).2)) = z17
        · refine own_go (fun _ k => XS.ifNo X18.here hx rfl (hb hby at_106) rfl ((if0 _ _).trans (teq ((lw_eq _ _).mpr hc27)).2) k) ?_
          show own_Fin _ _ _ _ _ _ _ (T18.setTop (mkF m 109 #[.val (.long q0), .second, .val (.int p1), .val (.int p2), .val (.int z7), .val (.ref b8), .val (.ref b10), .val (.int ((own_belE q0 z7).1)), .val (.long (own_f4 ((own_belE q0 z7).2))), .second, .val (.long z15), .second, .val (.long z17), .second, .unset, .unset, .unset, .unset] []))
          refine own_go (fun _ k => XS.iconst X18.here hx rfl (hb hby at_109) k) ?_
          show own_Fin _ _ _ _ _ _ _ (T18.setTop (mkF m 110 #[.val (.long q0), .second, .val (.int p1), .val (.int p2), .val (.int z7), .val (.ref b8), .val (.ref b10), .val (.int ((own_belE q0 z7).1)), .val (.long (own_f4 ((own_belE q0 z7).2))), .second, .val (.long z15), .second, .val (.long z17), .second, .unset, .unset, .unset, .unset] [(.int (1 : Int32))]))
          refine own_go (fun _ k => XS.goto X18.here hx rfl (pc0 := 110) (pc' := 114) rfl (hb hby at_110) (by decide) (by decide) k) ?_
          show own_Fin _ _ _ _ _ _ _ (T18.setTop (mkF m 114 #[.val (.long q0), .second, .val (.int p1), .val (.int p2), .val (.int z7), .val (.ref b8), .val (.ref b10), .val (.int ((own_belE q0 z7).1)), .val (.long (own_f4 ((own_belE q0 z7).2))), .second, .val (.long z15), .second, .val (.long z17), .second, .unset, .unset, .unset, .unset] [(.int (1 : Int32))]))
          refine own_ret X18 hx hlk Bd.returns rfl (Or.inl ⟨rfl, by simp, _, rfl⟩) (hb hby at_114) (Nat.le_of_ble_eq_true rfl) (Nat.le_of_ble_eq_true rfl) ?_
          exact ⟨(own_lf_own_f0_5 (q0 := q0) (p1 := p1) (p2 := p2) hz7 hz15 hz17 hc19 hc26 hc27), N18, trivial⟩
        · refine own_go (fun _ k => XS.ifYes X18.here hx rfl (pc0 := 106) (pc' := 113) rfl (hb hby at_106) rfl ((if0 _ _).trans (feq (mt (lw_eq _ _).mp hc27)).2) (by decide) (by decide) k) ?_
          show own_Fin _ _ _ _ _ _ _ (T18.setTop (mkF m 113 #[.val (.long q0), .second, .val (.int p1), .val (.int p2), .val (.int z7), .val (.ref b8), .val (.ref b10), .val (.int ((own_belE q0 z7).1)), .val (.long (own_f4 ((own_belE q0 z7).2))), .second, .val (.long z15), .second, .val (.long z17), .second, .unset, .unset, .unset, .unset] []))
          refine own_go (fun _ k => XS.iconst X18.here hx rfl (hb hby at_113) k) ?_
          show own_Fin _ _ _ _ _ _ _ (T18.setTop (mkF m 114 #[.val (.long q0), .second, .val (.int p1), .val (.int p2), .val (.int z7), .val (.ref b8), .val (.ref b10), .val (.int ((own_belE q0 z7).1)), .val (.long (own_f4 ((own_belE q0 z7).2))), .second, .val (.long z15), .second, .val (.long z17), .second, .unset, .unset, .unset, .unset] [(.int (0 : Int32))]))
          refine own_ret X18 hx hlk Bd.returns rfl (Or.inl ⟨rfl, by simp, _, rfl⟩) (hb hby at_114) (Nat.le_of_ble_eq_true rfl) (Nat.le_of_ble_eq_true rfl) ?_
          exact ⟨(own_lf_own_f0_6 (q0 := q0) (p1 := p1) (p2 := p2) hz7 hz15 hz17 hc19 hc26 hc27), N18, trivial⟩
      · refine own_go (fun _ k => XS.icmpYes X18.here hx rfl (pc0 := 98) (pc' := 113) rfl (hb hby at_98) rfl (feq hc26).2 (by decide) (by decide) k) ?_
        show own_Fin _ _ _ _ _ _ _ (T18.setTop (mkF m 113 #[.val (.long q0), .second, .val (.int p1), .val (.int p2), .val (.int z7), .val (.ref b8), .val (.ref b10), .val (.int ((own_belE q0 z7).1)), .val (.long (own_f4 ((own_belE q0 z7).2))), .second, .val (.long z15), .second, .val (.long z17), .second, .unset, .unset, .unset, .unset] []))
        refine own_go (fun _ k => XS.iconst X18.here hx rfl (hb hby at_113) k) ?_
        show own_Fin _ _ _ _ _ _ _ (T18.setTop (mkF m 114 #[.val (.long q0), .second, .val (.int p1), .val (.int p2), .val (.int z7), .val (.ref b8), .val (.ref b10), .val (.int ((own_belE q0 z7).1)), .val (.long (own_f4 ((own_belE q0 z7).2))), .second, .val (.long z15), .second, .val (.long z17), .second, .unset, .unset, .unset, .unset] [(.int (0 : Int32))]))
        refine own_ret X18 hx hlk Bd.returns rfl (Or.inl ⟨rfl, by simp, _, rfl⟩) (hb hby at_114) (Nat.le_of_ble_eq_true rfl) (Nat.le_of_ble_eq_true rfl) ?_
        exact ⟨(own_lf_own_f0_7 (q0 := q0) (p1 := p1) (p2 := p2) hz7 hz15 hc19 hc26), N18, trivial⟩
  by_cases hc1 : (p2 &&& (1 : Int32)) = (0 : Int32)
  · refine own_go (fun _ k => XS.ifYes X0.here hx rfl (pc0 := 3) (pc' := 17) rfl (hb hby at_3) rfl ((if0 _ _).trans (teq hc1).1) (by decide) (by decide) k) ?_
    show own_Fin _ _ _ _ _ _ _ (s₁.setTop (mkF m 17 #[.val (.long q0), .second, .val (.int p1), .val (.int p2), .unset, .unset, .unset, .unset, .unset, .unset, .unset, .unset, .unset, .unset, .unset, .unset, .unset, .unset] []))
    refine own_go (fun _ k => XS.iconst X0.here hx rfl (hb hby at_17) k) ?_
    show own_Fin _ _ _ _ _ _ _ (s₁.setTop (mkF m 18 #[.val (.long q0), .second, .val (.int p1), .val (.int p2), .unset, .unset, .unset, .unset, .unset, .unset, .unset, .unset, .unset, .unset, .unset, .unset, .unset, .unset] [(.int (1 : Int32))]))
    refine own_go (fun _ k => XS.iloadN X0.here hx rfl (hb hby at_18) rfl k) ?_
    show own_Fin _ _ _ _ _ _ _ (s₁.setTop (mkF m 19 #[.val (.long q0), .second, .val (.int p1), .val (.int p2), .unset, .unset, .unset, .unset, .unset, .unset, .unset, .unset, .unset, .unset, .unset, .unset, .unset, .unset] [(.int p1), (.int (1 : Int32))]))
    refine own_go (fun _ k => X0.ldcInt hx hown (mvT hZ (hw _ (List.mem_of_getElem? (i := 30) rfl))) (g := (mkF m 19 #[.val (.long q0), .second, .val (.int p1), .val (.int p2), .unset, .unset, .unset, .unset, .unset, .unset, .unset, .unset, .unset, .unset, .unset, .unset, .unset, .unset] [(.int p1), (.int (1 : Int32))])) rfl (hb hby at_19) _ k) ?_
    show own_Fin _ _ _ _ _ _ _ (s₁.setTop (mkF m 21 #[.val (.long q0), .second, .val (.int p1), .val (.int p2), .unset, .unset, .unset, .unset, .unset, .unset, .unset, .unset, .unset, .unset, .unset, .unset, .unset, .unset] [(.int (2147483647 : Int32)), (.int p1), (.int (1 : Int32))]))
    refine own_go (fun _ k => XS.iand X0.here hx rfl (hb hby at_21) rfl k) ?_
    show own_Fin _ _ _ _ _ _ _ (s₁.setTop (mkF m 22 #[.val (.long q0), .second, .val (.int p1), .val (.int p2), .unset, .unset, .unset, .unset, .unset, .unset, .unset, .unset, .unset, .unset, .unset, .unset, .unset, .unset] [(.int (p1 &&& (2147483647 : Int32))), (.int (1 : Int32))]))
    obtain ⟨_, _, ⟨T3, L3, k3, n3⟩, -, X3, ⟨Lc3, hQ3, l3, y3, z3⟩, st3⟩ := Jvm.LawKit.callS X0 hx (y := (⟨"java/lang/Math", "max", "(II)I"⟩ : MethodName)) hown (mvT hZ (hw _ (List.mem_of_getElem? (i := 31) rfl))) (mvT hZ (hw _ (List.mem_of_getElem? (i := 32) rfl))) (mvT hZ (hw _ (List.mem_of_getElem? (i := 33) rfl))) (mvT hZ (hw _ (List.mem_of_getElem? (i := 34) rfl))) (by decide) (backOf (W := 0) (rm6 l Z a0 hw [] (1 : Int32) (p1 &&& (2147483647 : Int32)) h0 n0 Z0) hZ (hw _ (List.mem_of_getElem? (i := 34) rfl)) (hw _ (List.mem_of_getElem? (i := 33) rfl)) (by decide) (by decide)) (g := (mkF m 22 #[.val (.long q0), .second, .val (.int p1), .val (.int p2), .unset, .unset, .unset, .unset, .unset, .unset, .unset, .unset, .unset, .unset, .unset, .unset, .unset, .unset] [(.int (p1 &&& (2147483647 : Int32))), (.int (1 : Int32))])) rfl (by rw [hml]; rfl) (argsL := [(.int (1 : Int32)), (.int (p1 &&& (2147483647 : Int32)))]) (rest := []) (lenOf own_pd100 rfl) rfl (by show 2 * 0 + _ ≤ _; exact Nat.le_of_eq rfl) (hb hby at_22) (fun _ _ => ⟨rfl, e0, (by decide : 0 + 0 ≤ _), (by decide : 0 + 0 ≤ _)⟩)
    dsimp only [Pt.U, Pt.locs, Pt.cells, Pt.slots] at X3 l3 y3 z3 st3 hQ3
    replace y3 : 0 = k3 := y3.symm
    replace z3 : 0 = n3 := z3.symm
    subst y3 z3
    obtain ⟨rfl, N3q, e3⟩ := hQ3
    have N3 : Fr n0 L3 := by rw [l3]; exact Fr.app N0 N3q
    refine own_go (fun tg k => st3 tg k) ?_
    show own_Fin _ _ _ _ _ _ _ (T3.setTop (mkF m 25 #[.val (.long q0), .second, .val (.int p1), .val (.int p2), .unset, .unset, .unset, .unset, .unset, .unset, .unset, .unset, .unset, .unset, .unset, .unset, .unset, .unset] [(.int (own_f6 (1 : Int32) (p1 &&& (2147483647 : Int32))))]))
    refine own_go (fun _ k => XS.istore X3.here hx rfl (hb hby at_25) rfl (l' := #[.val (.long q0), .second, .val (.int p1), .val (.int p2), .val (.int (own_f6 (1 : Int32) (p1 &&& (2147483647 : Int32)))), .unset, .unset, .unset, .unset, .unset, .unset, .unset, .unset, .unset, .unset, .unset, .unset, .unset]) rfl k) ?_
    show own_Fin _ _ _ _ _ _ _ (T3.setTop (mkF m 27 #[.val (.long q0), .second, .val (.int p1), .val (.int p2), .val (.int (own_f6 (1 : Int32) (p1 &&& (2147483647 : Int32)))), .unset, .unset, .unset, .unset, .unset, .unset, .unset, .unset, .unset, .unset, .unset, .unset, .unset] []))
    generalize hz4 : (own_f6 (1 : Int32) (p1 &&& (2147483647 : Int32))) = z4
    show own_Fin _ _ _ _ _ _ _ (T3.setTop (mkF m 27 #[.val (.long q0), .second, .val (.int p1), .val (.int p2), .val (.int z4), .unset, .unset, .unset, .unset, .unset, .unset, .unset, .unset, .unset, .unset, .unset, .unset, .unset] []))
    have kj := hk2 T3 _ (own_mono X3 (by decide) (by decide)) N3 e3
    try subst hz4
    simpa only [if_pos hc1] using kj
  · refine own_go (fun _ k => XS.ifNo X0.here hx rfl (hb hby at_3) rfl ((if0 _ _).trans (feq hc1).1) k) ?_
    show own_Fin _ _ _ _ _ _ _ (s₁.setTop (mkF m 6 #[.val (.long q0), .second, .val (.int p1), .val (.int p2), .unset, .unset, .unset, .unset, .unset, .unset, .unset, .unset, .unset, .unset, .unset, .unset, .unset, .unset] []))
    refine own_go (fun _ k => XS.iloadN X0.here hx rfl (hb hby at_6) rfl k) ?_
    show own_Fin _ _ _ _ _ _ _ (s₁.setTop (mkF m 7 #[.val (.long q0), .second, .val (.int p1), .val (.int p2), .unset, .unset, .unset, .unset, .unset, .unset, .unset, .unset, .unset, .unset, .unset, .unset, .unset, .unset] [(.int p1)]))
    refine own_go (fun _ k => XS.bipush X0.here hx rfl (hb hby at_7) k) ?_
    show own_Fin _ _ _ _ _ _ _ (s₁.setTop (mkF m 9 #[.val (.long q0), .second, .val (.int p1), .val (.int p2), .unset, .unset, .unset, .unset, .unset, .unset, .unset, .unset, .unset, .unset, .unset, .unset, .unset, .unset] [(.int (15 : Int32)), (.int p1)]))
    refine own_go (fun _ k => XS.iand X0.here hx rfl (hb hby at_9) rfl k) ?_
    show own_Fin _ _ _ _ _ _ _ (s₁.setTop (mkF m 10 #[.val (.long q0), .second, .val (.int p1), .val (.int p2), .unset, .unset, .unset, .unset, .unset, .unset, .unset, .unset, .unset, .unset, .unset, .unset, .unset, .unset] [(.int (p1 &&& (15 : Int32)))]))
    refine own_go (fun _ k => XS.iconst X0.here hx rfl (hb hby at_10) k) ?_
    show own_Fin _ _ _ _ _ _ _ (s₁.setTop (mkF m 11 #[.val (.long q0), .second, .val (.int p1), .val (.int p2), .unset, .unset, .unset, .unset, .unset, .unset, .unset, .unset, .unset, .unset, .unset, .unset, .unset, .unset] [(.int (1 : Int32)), (.int (p1 &&& (15 : Int32)))]))
    refine own_go (fun _ k => XS.iadd X0.here hx rfl (hb hby at_11) rfl k) ?_
    show own_Fin _ _ _ _ _ _ _ (s₁.setTop (mkF m 12 #[.val (.long q0), .second, .val (.int p1), .val (.int p2), .unset, .unset, .unset, .unset, .unset, .unset, .unset, .unset, .unset, .unset, .unset, .unset, .unset, .unset] [(.int ((p1 &&& (15 : Int32)) + (1 : Int32)))]))
    refine own_go (fun _ k => XS.istore X0.here hx rfl (hb hby at_12) rfl (l' := #[.val (.long q0), .second, .val (.int p1), .val (.int p2), .val (.int ((p1 &&& (15 : Int32)) + (1 : Int32))), .unset, .unset, .unset, .unset, .unset, .unset, .unset, .unset, .unset, .unset, .unset, .unset, .unset]) rfl k) ?_
    show own_Fin _ _ _ _ _ _ _ (s₁.setTop (mkF m 14 #[.val (.long q0), .second, .val (.int p1), .val (.int p2), .val (.int ((p1 &&& (15 : Int32)) + (1 : Int32))), .unset, .unset, .unset, .unset, .unset, .unset, .unset, .unset, .unset, .unset, .unset, .unset, .unset] []))
    generalize hz5 : ((p1 &&& (15 : Int32)) + (1 : Int32)) = z5
    show own_Fin _ _ _ _ _ _ _ (s₁.setTop (mkF m 14 #[.val (.long q0), .second, .val (.int p1), .val (.int p2), .val (.int z5), .unset, .unset, .unset, .unset, .unset, .unset, .unset, .unset, .unset, .unset, .unset, .unset, .unset] []))
    refine own_go (fun _ k => XS.goto X0.here hx rfl (pc0 := 14) (pc' := 27) rfl (hb hby at_14) (by decide) (by decide) k) ?_
    show own_Fin _ _ _ _ _ _ _ (s₁.setTop (mkF m 27 #[.val (.long q0), .second, .val (.int p1), .val (.int p2), .val (.int z5), .unset, .unset, .unset, .unset, .unset, .unset, .unset, .unset, .unset, .unset, .unset, .unset, .unset] []))
    have kj := hk2 s₁ _ (own_mono X0 (by decide) (by decide)) N0 e0
    try subst hz5
    simpa only [if_neg hc1] using kj
theorem own_dpos (x : Int64) : 0 ≤ (own_lushr x (1 : Int32)).toInt ∧ (own_lushr x (1 : Int32)).toInt < 9223372036854775808 := by
  have h : (own_lushr x (1 : Int32)).toInt = (x.toInt % 18446744073709551616) / (2 ^ 1 : Nat) := c_lushr x 1 1 (by decide) (by decide)
  rw [show ((2 ^ 1 : Nat) : Int) = 2 from by decide] at h
  omega
theorem own_full (st : Int64) (b : Int32) (hb : 0 < b.toInt) : own_f5 (own_lushr (own_f4 st) (1 : Int32)) b = (0 : Int32) ↔ own_rej st b := by
  rw [own_rejv st b hb]
  have dp := own_dpos (own_f4 st)
  generalize own_lushr (own_f4 st) (1 : Int32) = d at *
  have hc := c_i2l b
  have r0 := rng32 b
  have m := (c_lrem d b.toInt64 b.toInt hc).1 dp.1
  rw [lrem_mod] at m
  have p1 := Int.emod_nonneg d.toInt (show b.toInt ≠ 0 by omega)
  have p2 := Int.emod_lt_of_pos d.toInt hb
  have e1 := Int.mul_ediv_add_emod d.toInt b.toInt
  have e2 := Int.mul_ediv_add_emod 9223372036854775808 b.toInt
  have p3 := Int.emod_nonneg 9223372036854775808 (show b.toInt ≠ 0 by omega)
  have p4 := Int.emod_lt_of_pos 9223372036854775808 hb
  have s1 := c_lsub d (d % b.toInt64)
  have t1 := rng64 (d - d % b.toInt64)
  have s2 := c_isub b 1
  have t2 := rng32 (b - 1)
  rw [show (1 : Int32).toInt = 1 from by decide] at s2
  have s3 := c_i2l (b - 1)
  have s4 := c_ladd (d - d % b.toInt64) (b - 1).toInt64
  have t4 := rng64 (d - d % b.toInt64 + (b - 1).toInt64)
  have q1 : (d - d % b.toInt64).toInt = d.toInt - d.toInt % b.toInt := by
    have : d.toInt % b.toInt ≤ d.toInt := by
      have := Int.mul_nonneg (show 0 ≤ b.toInt by omega) (Int.ediv_nonneg dp.1 (show 0 ≤ b.toInt by omega))
      omega
    omega
  have key : (d - d % b.toInt64 + (b - 1).toInt64) < (0 : Int64) ↔ 9223372036854775808 ≤ d.toInt - d.toInt % b.toInt + b.toInt - 1 := by
    rw [Int64.lt_iff_toInt_lt, show (0 : Int64).toInt = 0 from by decide]
    have : d.toInt % b.toInt ≤ d.toInt := by
      have := Int.mul_nonneg (show 0 ≤ b.toInt by omega) (Int.ediv_nonneg dp.1 (show 0 ≤ b.toInt by omega))
      omega
    omega
  have fin : own_f5 d b = (0 : Int32) ↔ (d - d % b.toInt64 + (b - 1).toInt64) < (0 : Int64) := by
    simp only [own_f5]
    split
    · rename_i h; simp [h]
    · rename_i h; simp [h]
  rw [fin, key]
  generalize d.toInt / b.toInt = q at *
  generalize (9223372036854775808 : Int) / b.toInt = Q at *
  generalize d.toInt % b.toInt = R at *
  generalize (9223372036854775808 : Int) % b.toInt = L at *
  constructor
  · intro h
    by_cases hq : Q ≤ q
    · have := Int.mul_le_mul_of_nonneg_left hq (show 0 ≤ b.toInt by omega)
      omega
    · have h1 : q + 1 ≤ Q := by omega
      have := Int.mul_le_mul_of_nonneg_left h1 (show 0 ≤ b.toInt by omega)
      rw [Int.mul_add, Int.mul_one] at this
      omega
  · intro h
    by_cases hq : Q ≤ q
    · have := Int.mul_le_mul_of_nonneg_left hq (show 0 ≤ b.toInt by omega)
      omega
    · have h1 : q + 1 ≤ Q := by omega
      have := Int.mul_le_mul_of_nonneg_left h1 (show 0 ≤ b.toInt by omega)
      rw [Int.mul_add, Int.mul_one] at this
      omega
theorem own_plain (q0 : Int64) (p1 p2 : Int32) : own_f0 q0 p1 p2 = 1 := by
  have hb0 := own_bd p1 p2
  simp only [own_f0]
  generalize (if (p2 &&& (1 : Int32)) = (0 : Int32) then _ else _) = b at *
  have hb : 0 < b.toInt := by rw [Int32.lt_iff_toInt_lt, show (0 : Int32).toInt = 0 from by decide] at hb0; exact hb0
  simp only [own_full _ _ hb]
  by_cases r1 : own_rej q0 b
  · rw [if_pos r1]
    by_cases r2 : own_rej (q0 + (-7046029254386353131 : Int64)) b
    · rw [if_pos r2]
    · rw [if_neg r2, own_bel1 hb0 r1, own_bel0 r2]
      simp
  · rw [if_neg r1, own_bel0 r1]
    simp

set_option maxRecDepth 65536 in
set_option maxHeartbeats 40000000 in
theorem comes_1 {Post : Tables → Env → Array Value → State → Outcome → State → Prop} (hpost : ∀ tb e args s v u, (limb_1_1.after args s (.returned v) u = true ∧ limb_1_2.after args s (.returned v) u = true ∧ True) → FrameEnd s (.returned v) u (Jvm.fieldLocs frame_1_writes args s ++ Jvm.arrayLocs frame_1_arrays args s ++ Jvm.staticLocs frame_1_statics s) 16 128 → Post tb e args s (.returned v) u) :
    ArmFor flags0 classFile x code maxLocals ret World_1 tables_1 room_1 Calls_1 rest_1 Pre_1 Post := by
  intro l hfl _ _ p e ha hc hk s m args below hf hA hF happ hP
  obtain ⟨hcalls, hrest, hpre⟩ := hP
  obtain ⟨-, -, -, hnamed, -, -, -, hat⟩ := (Spec.applies_iff hf).mp happ
  obtain ⟨hg, hn⟩ := and_e (Cond.before_iff.mp (show (Jvm.Cond.and given_1 narrow_1).before args s = true from hpre))
  obtain ⟨g1, g2⟩ := and_e hg
  obtain ⟨g3, g4⟩ := and_e g2
  obtain ⟨g5, g6⟩ := and_e g4
  obtain ⟨w0, w1, w2, rfl⟩ : ∃ w0 w1 w2 : Value, args = #[w0, w1, w2] := by
    have hs : args.size = 3 := by simpa [Cond.value, given_1] using g1
    obtain ⟨L⟩ := args
    match L, hs with
    | [w0, w1, w2], _ => exact ⟨w0, w1, w2, rfl⟩
  have hw := fun d (hd : d ∈ tables_1) => atoms_spec (ws := Jvm.Cond.code x code maxLocals ret :: tables_1) hat d (List.mem_cons_of_mem _ hd)
  have hfit : Fit s := fun {y c} hc i hi => by
    obtain ⟨ha, rfl⟩ := Array.getElem?_eq_some_iff.mp hc
    have q := List.all_eq_true.mp ((Array.all_eq_true_iff_forall_mem.mp hF) _ (Array.getElem_mem ha)) i (List.mem_range.mpr hi)
    simpa [Array.getElem?_eq_getElem hi] using q
  obtain ⟨i0, ei0⟩ := isL_v g3
  obtain rfl : w0 = (.long i0) := Option.some.inj ei0
  obtain ⟨i1, ei1⟩ := is_v g5
  obtain rfl : w1 = (.int i1) := Option.some.inj ei1
  obtain ⟨i2, ei2⟩ := is_v g6
  obtain rfl : w2 = (.int i2) := Option.some.inj ei2
  obtain ⟨n, o, h1, h2, h3, _, L, rfl, ⟨rfl, N, hrest'⟩, hq⟩ := rm0 l s _ hw tables_1 i0 i1 i2 s.heap s.heap.size (Nat.le_refl _) p e ha hc hk s m _ below hf ((Spec.applies_iff_loose hf).mp happ).1 ⟨rfl, State.Warmed39.refl s, rfl⟩ trivial
  refine ⟨n, _, h1, h2, h3, hpost _ _ _ _ _ _ ⟨Cond.after_iff.mpr rfl, Cond.after_iff.mpr (eq_i res_at (Term.int_eval (1)) (congrArg Value.int (own_plain i0 i1 i2))), trivial⟩ ⟨hq.1, hq.2.1, (hq.2.2.sift fun y hy => Or.inr (N y hy)).mono (by decide) (by decide)⟩⟩
theorem main_1_1 : Claimed_1_1 := comes_1 fun _ _ _ _ _ _ h hF => ⟨h.1, hF⟩
theorem main_1_2 : Claimed_1_2 := comes_1 fun _ _ _ _ _ _ h hF => ⟨h.2.1, hF⟩
end Jvm.Pilot.@@N@@
namespace Jvm.Pilot.@@N@@
open Jvm Jvm.ClassFile Sem Op Lib Jvm.Free Jvm.Stand Jvm.Pilot.@@N@@.Jvm.D
/-! MADE BY PROGRAM (witnessworld.py) out of the Statement's table words and the real class files: 10 classes; the members and pool entries that the words name. The judged class is class 1, her method 1. -/
namespace start1
open Jvm.ClassFile
def u (s : String) : CpInfo := .utf8 (stringToUtf16 s)
/-- a pool by its gaps: so many unusable entries, then the entry; so many at the end -/
def gap : Nat → List CpInfo → List CpInfo
  | 0, r => r
  | n + 1, r => .unusable :: gap n r
def poolList (es : List (Nat × CpInfo)) (last : Nat) : List CpInfo := es.foldr (fun e r => gap e.1 (e.2 :: r)) (gap last [])
def pool (es : List (Nat × CpInfo)) (last : Nat) : Array CpInfo := ⟨poolList es last⟩
def fileOf (pool : Array CpInfo) (this : Nat) (attrs : Array Attribute := #[]) (ms : Array MethodInfo := #[]) (fl : Nat := 33) (sup : Nat := 0) (ifs : Array Nat := #[]) (fds : Array FieldInfo := #[]) : ClassFile where
  minorVersion := 0
  majorVersion := 65
  constantPool := pool
  accessFlags := fl
  thisClass := this
  superClass := sup
  interfaces := ifs
  fields := fds
  methods := ms
  attributes := attrs
def plain (name : String) (sup : Option ClassId) : Class where
  name := name
  kind := .ordinary
  loader := none
  accessFlags := 33
  super := sup
  interfaces := #[]
  cf := none
  fields := #[]
  methods := #[]
  instanceTypes := #[]
  staticTypes := #[]
  resolved := #[]
  callSites := []
  init := .initialized
  statics := none
  mirror := none

def pool0 : Array CpInfo := pool [(5, u "<init>"), (0, u "()V"), (1, .class_ 10), (1, u "java/lang/Object")] 113

def k0c0 : Code := { maxStack := 0, maxLocals := 1, code := object_method_1_code, exceptionTable := #[], attributes := #[] }
def k0m0 : Method := { name := "<init>", desc := "()V", sig := { parameters := [], returnType := none }, accessFlags := 1, code := some k0c0 }
/-- java/lang/Object -/
def k0 : Class := { plain "java/lang/Object" none with
  accessFlags := 33
  interfaces := #[]
  cf := some (fileOf pool0 8 #[] #[{ accessFlags := 1, nameIndex := 5, descriptorIndex := 6, attributes := #[] }] 33 0 #[] #[])
  fields := #[]
  methods := #[k0m0]
  instanceTypes := #[]
  staticTypes := #[]
  resolved := Array.replicate 124 none
  statics := none }

def pool1 : Array CpInfo := pool [(2, .class_ 4), (1, u "java/lang/Object"), (0, u "<init>"), (0, u "()V"), (0, .integer 2147483647), (0, .methodref 9 10), (0, .class_ 11), (0, .nameAndType 12 13), (0, u "java/lang/Math"), (0, u "max"), (0, u "(II)I"), (0, .class_ 15), (0, u "com/example/cordon/cordon/Rng"), (0, .methodref 14 17), (0, .nameAndType 5 18), (0, u "(J)V"), (0, .methodref 14 20), (0, .nameAndType 21 22), (0, u "below"), (0, u "(I)I"), (0, .methodref 14 24), (0, .nameAndType 25 26), (0, u "nextLong"), (0, u "()J"), (0, .methodref 28 29), (0, .class_ 30), (0, .nameAndType 31 32), (0, u "com/example/cordon/cordon/RngBelowPinLaw"), (0, u "full"), (0, u "(JI)Z"), (2, u "law"), (0, u "(JII)Z")] 3

def k1m0 : Method := { name := "<init>", desc := "()V", sig := { parameters := [], returnType := none }, accessFlags := 1, code := none }
def k1c1 : Code := { maxStack := 5, maxLocals := 18, code := code, exceptionTable := #[], attributes := #[] }
def k1m1 : Method := { name := "law", desc := "(JII)Z", sig := { parameters := [.long, .int, .int], returnType := some .boolean }, accessFlags := 9, code := some k1c1 }
def k1c2 : Code := { maxStack := 4, maxLocals := 5, code := method_3_code, exceptionTable := #[], attributes := #[] }
def k1m2 : Method := { name := "full", desc := "(JI)Z", sig := { parameters := [.long, .int], returnType := some .boolean }, accessFlags := 10, code := some k1c2 }
/-- com/example/cordon/cordon/RngBelowPinLaw -/
def k1 : Class := { plain "com/example/cordon/cordon/RngBelowPinLaw" (some 0) with
  accessFlags := 49
  interfaces := #[]
  cf := some (fileOf pool1 28 #[] #[{ accessFlags := 1, nameIndex := 5, descriptorIndex := 6, attributes := #[] }, { accessFlags := 9, nameIndex := 35, descriptorIndex := 36, attributes := #[] }, { accessFlags := 10, nameIndex := 31, descriptorIndex := 32, attributes := #[] }] 49 2 #[] #[])
  fields := #[]
  methods := #[k1m0, k1m1, k1m2]
  instanceTypes := #[]
  staticTypes := #[]
  resolved := Array.replicate 40 none
  statics := none }

def pool2 : Array CpInfo := pool [(1, .methodref 2 3), (0, .class_ 4), (0, .nameAndType 5 6), (0, u "java/lang/Object"), (0, u "<init>"), (0, u "()V"), (0, .fieldref 8 9), (0, .class_ 10), (0, .nameAndType 11 12), (0, u "com/example/cordon/cordon/Rng"), (0, u "state"), (0, u "J"), (2, u "STATE"), (0, u "Ljava/util/regex/Pattern;"), (20, u "(J)V"), (16, .long 11400714819323198485), (1, .long 13787848793156543929), (1, .long 10723151780598845931), (10, .long 9223372036854775807), (1, .methodref 8 72), (0, .nameAndType 73 74), (0, u "nextLong"), (0, u "()J"), (8, u "below"), (0, u "(I)I"), (24, u "GOLDEN_GAMMA"), (1, u "FNV_OFFSET_BASIS"), (0, u "FNV_PRIME")] 30

def k2c0 : Code := { maxStack := 3, maxLocals := 3, code := prog_58_method_1_code, exceptionTable := #[], attributes := #[] }
def k2m0 : Method := { name := "<init>", desc := "(J)V", sig := { parameters := [.long], returnType := none }, accessFlags := 0, code := some k2c0 }
def k2c1 : Code := { maxStack := 5, maxLocals := 3, code := prog_58_method_3_code, exceptionTable := #[], attributes := #[] }
def k2m1 : Method := { name := "nextLong", desc := "()J", sig := { parameters := [], returnType := some .long }, accessFlags := 0, code := some k2c1 }
def k2c2 : Code := { maxStack := 6, maxLocals := 6, code := prog_58_method_4_code, exceptionTable := #[], attributes := #[] }
def k2m2 : Method := { name := "below", desc := "(I)I", sig := { parameters := [.int], returnType := some .int }, accessFlags := 0, code := some k2c2 }
/-- com/example/cordon/cordon/Rng -/
def k2 : Class := { plain "com/example/cordon/cordon/Rng" (some 0) with
  accessFlags := 48
  interfaces := #[]
  cf := some (fileOf pool2 8 #[] #[{ accessFlags := 0, nameIndex := 5, descriptorIndex := 37, attributes := #[] }, { accessFlags := 0, nameIndex := 73, descriptorIndex := 74, attributes := #[] }, { accessFlags := 0, nameIndex := 83, descriptorIndex := 84, attributes := #[] }] 48 2 #[] #[{ accessFlags := 26, nameIndex := 109, descriptorIndex := 12, attributes := #[] }, { accessFlags := 26, nameIndex := 15, descriptorIndex := 16, attributes := #[] }, { accessFlags := 26, nameIndex := 111, descriptorIndex := 12, attributes := #[] }, { accessFlags := 26, nameIndex := 112, descriptorIndex := 12, attributes := #[] }, { accessFlags := 2, nameIndex := 11, descriptorIndex := 12, attributes := #[] }])
  fields := #[{ name := "GOLDEN_GAMMA", type := .long, accessFlags := 26, slot := 0, constantValue := 0 }, { name := "STATE", type := (.object "java/util/regex/Pattern"), accessFlags := 26, slot := 1, constantValue := 0 }, { name := "FNV_OFFSET_BASIS", type := .long, accessFlags := 26, slot := 2, constantValue := 0 }, { name := "FNV_PRIME", type := .long, accessFlags := 26, slot := 3, constantValue := 0 }, { name := "state", type := .long, accessFlags := 2, slot := 0, constantValue := 0 }]
  methods := #[k2m0, k2m1, k2m2]
  instanceTypes := #[.long]
  staticTypes := #[.long, (.object "java/util/regex/Pattern"), .long, .long]
  resolved := Array.replicate 143 none
  statics := none }

def pool3 : Array CpInfo := pool [(1, .class_ 2), (0, u "java/lang/Math"), (1, .class_ 6), (1, u "java/lang/Object"), (0, u "<init>"), (0, u "()V"), (89, .class_ 100), (1, u "java/lang/Math$RandomNumberGeneratorHolder"), (71, u "negativeZeroFloatBits"), (0, u "J"), (2, u "negativeZeroDoubleBits"), (21, u "max"), (46, u "$assertionsDisabled"), (0, u "Z"), (88, u "(II)I"), (2, u "twoToTheDoubleScaleDown"), (0, u "D"), (4, u "twoToTheDoubleScaleUp"), (9, u "E"), (3, u "PI"), (2, u "TAU"), (2, u "DEGREES_TO_RADIANS"), (0, u "RADIANS_TO_DEGREES")] 94

def k3m0 : Method := { name := "<init>", desc := "()V", sig := { parameters := [], returnType := none }, accessFlags := 2, code := none }
def k3c1 : Code := { maxStack := 2, maxLocals := 2, code := jdk_29_method_65_code, exceptionTable := #[], attributes := #[] }
def k3m1 : Method := { name := "max", desc := "(II)I", sig := { parameters := [.int, .int], returnType := some .int }, accessFlags := 9, code := some k3c1 }
/-- java/lang/Math -/
def k3 : Class := { plain "java/lang/Math" (some 0) with
  accessFlags := 49
  interfaces := #[]
  cf := some (fileOf pool3 1 #[.nestMembers #[98]] #[{ accessFlags := 2, nameIndex := 7, descriptorIndex := 8, attributes := #[] }, { accessFlags := 9, nameIndex := 198, descriptorIndex := 335, attributes := #[] }] 49 4 #[] #[{ accessFlags := 25, nameIndex := 354, descriptorIndex := 339, attributes := #[] }, { accessFlags := 25, nameIndex := 358, descriptorIndex := 339, attributes := #[] }, { accessFlags := 25, nameIndex := 361, descriptorIndex := 339, attributes := #[] }, { accessFlags := 26, nameIndex := 364, descriptorIndex := 339, attributes := #[] }, { accessFlags := 26, nameIndex := 365, descriptorIndex := 339, attributes := #[] }, { accessFlags := 26, nameIndex := 172, descriptorIndex := 173, attributes := #[] }, { accessFlags := 26, nameIndex := 176, descriptorIndex := 173, attributes := #[] }, { accessFlags := 8, nameIndex := 344, descriptorIndex := 339, attributes := #[] }, { accessFlags := 8, nameIndex := 338, descriptorIndex := 339, attributes := #[] }, { accessFlags := 4120, nameIndex := 245, descriptorIndex := 246, attributes := #[] }])
  fields := #[{ name := "E", type := .double, accessFlags := 25, slot := 0, constantValue := 0 }, { name := "PI", type := .double, accessFlags := 25, slot := 1, constantValue := 0 }, { name := "TAU", type := .double, accessFlags := 25, slot := 2, constantValue := 0 }, { name := "DEGREES_TO_RADIANS", type := .double, accessFlags := 26, slot := 3, constantValue := 0 }, { name := "RADIANS_TO_DEGREES", type := .double, accessFlags := 26, slot := 4, constantValue := 0 }, { name := "negativeZeroFloatBits", type := .long, accessFlags := 26, slot := 5, constantValue := 0 }, { name := "negativeZeroDoubleBits", type := .long, accessFlags := 26, slot := 6, constantValue := 0 }, { name := "twoToTheDoubleScaleUp", type := .double, accessFlags := 8, slot := 7, constantValue := 0 }, { name := "twoToTheDoubleScaleDown", type := .double, accessFlags := 8, slot := 8, constantValue := 0 }, { name := "$assertionsDisabled", type := .boolean, accessFlags := 4120, slot := 9, constantValue := 0 }]
  methods := #[k3m0, k3m1]
  instanceTypes := #[]
  staticTypes := #[.double, .double, .double, .double, .double, .long, .long, .double, .double, .boolean]
  resolved := Array.replicate 460 none
  statics := none }

def pool4 : Array CpInfo := pool [(1, u "java/lang/Cloneable"), (0, .class_ 1), (0, u "java/lang/Object"), (0, .class_ 3)] 3

/-- java/lang/Cloneable -/
def k4 : Class := { plain "java/lang/Cloneable" (some 0) with
  accessFlags := 1537
  interfaces := #[]
  cf := some (fileOf pool4 2 #[] #[] 1537 4 #[] #[])
  fields := #[]
  methods := #[]
  instanceTypes := #[]
  staticTypes := #[]
  resolved := Array.replicate 8 none
  statics := none }

def pool5 : Array CpInfo := pool [(1, u "java/io/Serializable"), (0, .class_ 1), (0, u "java/lang/Object"), (0, .class_ 3)] 3

/-- java/io/Serializable -/
def k5 : Class := { plain "java/io/Serializable" (some 0) with
  accessFlags := 1537
  interfaces := #[]
  cf := some (fileOf pool5 2 #[] #[] 1537 4 #[] #[])
  fields := #[]
  methods := #[]
  instanceTypes := #[]
  staticTypes := #[]
  resolved := Array.replicate 8 none
  statics := none }

/-- the primitive byte -/
def k6 : Class := { plain "byte" none with kind := .primitive 'B', accessFlags := 0x411 }
/-- [B -/
def k7 : Class := { plain "[B" (some 0) with kind := .array 6 .byte, interfaces := #[4, 5], accessFlags := 1041 }

/-- the primitive int -/
def k8 : Class := { plain "int" none with kind := .primitive 'I', accessFlags := 0x411 }
/-- [I -/
def k9 : Class := { plain "[I" (some 0) with kind := .array 8 .int, interfaces := #[4, 5], accessFlags := 1041 }

def heap : Heap := #[]
def classes : Array Class := #[k0, k1, k2, k3, k4, k5, k6, k7, k8, k9]
def interned : List (Array UInt16 × Addr) := []
def slotsUsed : Nat := 0
def theMethod : MethodId := ⟨1, 1⟩
def args0 : Array Value := #[.long 2, .int 6, .int 7]
def aboutOver (below : List Frame) : State where
  vm := { classes := classes, interned := interned.toArray }
  heap := heap
  slotsUsed := slotsUsed
  threads := #[{ frames := .invoking theMethod args0 :: below }]
def below0 : List Frame := [.native { method := ⟨0, 0⟩, args := #[] }]
def about1 : State := aboutOver below0
def p0 : Program := .bare "" "" ""
def e0 : Env := launch0.env 0 0 0
theorem w_frames : about1.frames = Frame.invoking theMethod args0 :: below0 := rfl
set_option maxRecDepth 65536 in
theorem w_args : argsFit about1.vm theMethod args0 = true := by decide +kernel
set_option maxRecDepth 65536 in
theorem w_heap : heapFits about1 = true := by decide +kernel
set_option maxRecDepth 65536 in
theorem w_runnable : about1.curStatus? = some .runnable := by decide +kernel
set_option maxRecDepth 65536 in
theorem w_alone : about1.alone = true := by decide +kernel
set_option maxRecDepth 65536 in
theorem w_named : about1.methodNamed? x = some theMethod := by decide +kernel
set_option maxRecDepth 65536 in
theorem w_hears : about1.hears theMethod below0 = true := by decide +kernel
set_option maxRecDepth 65536 in
theorem w_ripe : about1.ripe theMethod args0 below0 = true := by decide +kernel
theorem w_running : about1.status = .running := rfl
set_option maxRecDepth 65536 in
theorem w_room : about1.hasRoom e0.platform room_1 = true :=
  launch0.hasRoom_least _ room_1 (by decide +kernel) (by decide +kernel) (by decide +kernel) (by decide +kernel) (by decide +kernel) (by decide +kernel)
theorem allAtoms_all (ts : List Jvm.Cond) (a : Array Jvm.Value) (st : Jvm.State) : (allAtoms ts).before a st = ts.all (fun c => c.before a st) := by
  induction ts with
  | nil => rfl
  | cons c t ih =>
    show (Jvm.Cond.and c (allAtoms t)).before a st = _
    rw [Jvm.Cond.before_and, ih, List.all_cons]
def words1 : List Jvm.Cond := Jvm.Cond.code x code maxLocals ret :: tables_1
/-- a 'code' word, met by the world's own term for the bytes: nothing is compared byte by byte -/
theorem code_word {y : MethodName} {bytes : ByteArray} {mx : Nat} {rt : Option FieldType} {a : Array Value} {s : State} {m : MethodId} {meth : Method} {c : Code} (h1 : s.methodNamed? y = some m) (h2 : s.vm.method? m = some meth) (h3 : meth.code = some c) (h4 : c.code = bytes)
    (h5 : (c.maxLocals == mx && c.exceptionTable.isEmpty && decide (c.maxStack ≤ mostOperands) && decide (meth.sig.returnType = rt) && !meth.locks && decide (parseMethodDescriptor y.desc = some meth.sig)) = true) : (Jvm.Cond.code y bytes mx rt).before a s = true := by
  simp only [Bool.and_eq_true, beq_iff_eq, Bool.not_eq_true', decide_eq_true_eq] at h5
  obtain ⟨⟨⟨⟨⟨g1, g2⟩, g3⟩, g4⟩, g5⟩, g6⟩ := h5
  simp [Cond.before, Cond.holds, Cond.value, h1, h2, h3, h4, g1, g2, g3, g4, g5, g6]
def isCode : Jvm.Cond → Bool
  | .code _ _ _ _ => true
  | _ => false
theorem all_split {L : List Jvm.Cond} {P : Jvm.Cond → Bool} (h1 : L.all (fun c => isCode c || P c) = true) (h2 : ∀ c ∈ L.filter isCode, P c = true) : L.all P = true := by
  refine List.all_eq_true.mpr fun c hc => ?_
  have h := List.all_eq_true.mp h1 c hc
  rcases Bool.eq_false_or_eq_true (isCode c) with hi | hi
  · exact h2 c (List.mem_filter.mpr ⟨hc, hi⟩)
  · simpa [hi] using h
set_option maxRecDepth 65536 in
theorem w_c0 : (Jvm.Cond.code x code maxLocals ret).before args0 about1 = true := code_word (m := ⟨1, 1⟩) (meth := k1m1) (c := k1c1) (by decide +kernel) rfl rfl rfl (by decide +kernel)
set_option maxRecDepth 65536 in
theorem w_c1 : (Jvm.Cond.code ({ cls := "com/example/cordon/cordon/Rng", name := "<init>", desc := "(J)V" } : Jvm.MethodName) prog_58_method_1_code (3 : Nat) (Option.none : Option Jvm.ClassFile.FieldType)).before args0 about1 = true := code_word (m := ⟨2, 0⟩) (meth := k2m0) (c := k2c0) (by decide +kernel) rfl rfl rfl (by decide +kernel)
set_option maxRecDepth 65536 in
theorem w_c2 : (Jvm.Cond.code ({ cls := "java/lang/Object", name := "<init>", desc := "()V" } : Jvm.MethodName) object_method_1_code (1 : Nat) (Option.none : Option Jvm.ClassFile.FieldType)).before args0 about1 = true := code_word (m := ⟨0, 0⟩) (meth := k0m0) (c := k0c0) (by decide +kernel) rfl rfl rfl (by decide +kernel)
set_option maxRecDepth 65536 in
theorem w_c3 : (Jvm.Cond.code ({ cls := "com/example/cordon/cordon/Rng", name := "below", desc := "(I)I" } : Jvm.MethodName) prog_58_method_4_code (6 : Nat) (Option.some Jvm.ClassFile.FieldType.int)).before args0 about1 = true := code_word (m := ⟨2, 2⟩) (meth := k2m2) (c := k2c2) (by decide +kernel) rfl rfl rfl (by decide +kernel)
set_option maxRecDepth 65536 in
theorem w_c4 : (Jvm.Cond.code ({ cls := "com/example/cordon/cordon/Rng", name := "nextLong", desc := "()J" } : Jvm.MethodName) prog_58_method_3_code (3 : Nat) (Option.some Jvm.ClassFile.FieldType.long)).before args0 about1 = true := code_word (m := ⟨2, 1⟩) (meth := k2m1) (c := k2c1) (by decide +kernel) rfl rfl rfl (by decide +kernel)
set_option maxRecDepth 65536 in
theorem w_c5 : (Jvm.Cond.code ({ cls := "com/example/cordon/cordon/RngBelowPinLaw", name := "full", desc := "(JI)Z" } : Jvm.MethodName) method_3_code (5 : Nat) (Option.some Jvm.ClassFile.FieldType.boolean)).before args0 about1 = true := code_word (m := ⟨1, 2⟩) (meth := k1m2) (c := k1c2) (by decide +kernel) rfl rfl rfl (by decide +kernel)
set_option maxRecDepth 65536 in
theorem w_c6 : (Jvm.Cond.code ({ cls := "java/lang/Math", name := "max", desc := "(II)I" } : Jvm.MethodName) jdk_29_method_65_code (2 : Nat) (Option.some Jvm.ClassFile.FieldType.int)).before args0 about1 = true := code_word (m := ⟨3, 1⟩) (meth := k3m1) (c := k3c1) (by decide +kernel) rfl rfl rfl (by decide +kernel)
def codes1 : List Jvm.Cond := [Jvm.Cond.code x code maxLocals ret, Jvm.Cond.code ({ cls := "com/example/cordon/cordon/Rng", name := "<init>", desc := "(J)V" } : Jvm.MethodName) prog_58_method_1_code (3 : Nat) (Option.none : Option Jvm.ClassFile.FieldType), Jvm.Cond.code ({ cls := "java/lang/Object", name := "<init>", desc := "()V" } : Jvm.MethodName) object_method_1_code (1 : Nat) (Option.none : Option Jvm.ClassFile.FieldType), Jvm.Cond.code ({ cls := "com/example/cordon/cordon/Rng", name := "below", desc := "(I)I" } : Jvm.MethodName) prog_58_method_4_code (6 : Nat) (Option.some Jvm.ClassFile.FieldType.int), Jvm.Cond.code ({ cls := "com/example/cordon/cordon/Rng", name := "nextLong", desc := "()J" } : Jvm.MethodName) prog_58_method_3_code (3 : Nat) (Option.some Jvm.ClassFile.FieldType.long), Jvm.Cond.code ({ cls := "com/example/cordon/cordon/RngBelowPinLaw", name := "full", desc := "(JI)Z" } : Jvm.MethodName) method_3_code (5 : Nat) (Option.some Jvm.ClassFile.FieldType.boolean), Jvm.Cond.code ({ cls := "java/lang/Math", name := "max", desc := "(II)I" } : Jvm.MethodName) jdk_29_method_65_code (2 : Nat) (Option.some Jvm.ClassFile.FieldType.int)]
set_option maxRecDepth 65536 in
theorem codes_eq : words1.filter isCode = codes1 := rfl
theorem w_codes : ∀ c ∈ words1.filter isCode, c.before args0 about1 = true := by
  rw [codes_eq]
  intro c hc
  simp only [codes1, List.mem_cons, List.not_mem_nil, or_false] at hc
  rcases hc with rfl | rfl | rfl | rfl | rfl | rfl | rfl
  · exact w_c0
  · exact w_c1
  · exact w_c2
  · exact w_c3
  · exact w_c4
  · exact w_c5
  · exact w_c6
set_option maxRecDepth 65536 in
theorem w_t1 : (words1.take 24).all (fun c => isCode c || c.before args0 about1) = true := by decide +kernel
set_option maxRecDepth 65536 in
theorem w_t2 : (words1.drop 24).all (fun c => isCode c || c.before args0 about1) = true := by decide +kernel
theorem w_tables : (allAtoms (Jvm.Cond.code x code maxLocals ret :: tables_1)).before args0 about1 = true := by
  rw [allAtoms_all]
  show words1.all (fun c => c.before args0 about1) = true
  refine all_split ?_ w_codes
  rw [← List.take_append_drop 24 words1, List.all_append, w_t1, w_t2]
  rfl
set_option maxRecDepth 65536 in
theorem w_case : (Jvm.Cond.and given_1 narrow_1).before args0 about1 = true := by decide +kernel
theorem w_applies : (headSpec (Jvm.Cond.code x code maxLocals ret :: tables_1) room_1).applies x e0.platform about1 = true :=
  (Spec.applies_iff w_frames).mpr ⟨w_running, w_runnable, w_alone, w_named, w_hears, w_ripe, w_room, w_tables⟩
theorem atStart : AtStart classFile x code maxLocals ret World_1 tables_1 room_1 Calls_1 rest_1 Pre_1 launch0 p0 e0 about1 theMethod args0 below0 :=
  ⟨lists_1, trivial, launch0.admits_env _ _ _, launch0.least_env, fairChoices_fair.cas, fairChoices_fair.clock, w_frames, w_args, w_heap, w_applies, trivial, trivial, w_case⟩
end start1
theorem witness_1 : WitnessClaimed_1 := ⟨start1.p0, start1.e0, start1.about1, start1.theMethod, start1.args0, start1.below0, start1.atStart⟩
end Jvm.Pilot.@@N@@
