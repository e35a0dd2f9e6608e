import JvmDerived
import JvmDerived.Pilot.@@N@@Statement
import JvmDerived.Pilot.@@N@@Code
set_option linter.unusedVariables false
set_option linter.unusedSimpArgs false
namespace Jvm.Pilot.@@N@@
open Jvm Jvm.ClassFile Sem Op Lib Jvm.Free Jvm.Stand Jvm.LawKit Jvm.RoadKit Bundle Jvm.Pilot.@@N@@.Jvm.D
/-! own layer: the run from a state ends in a return of which Q holds; one step leads from there to there -/
def own_ishl (x y : Int32) : Int32 := x <<< (y &&& 31)
def own_ishr (x y : Int32) : Int32 := x >>> (y &&& 31)
def own_iushr (x y : Int32) : Int32 := (x.toUInt32 >>> (y &&& 31).toUInt32).toInt32
def own_lshl (x : Int64) (y : Int32) : Int64 := x <<< (y &&& 0x3f).toInt64
def own_lshr (x : Int64) (y : Int32) : Int64 := x >>> (y &&& 0x3f).toInt64
def own_lushr (x : Int64) (y : Int32) : Int64 := (x.toUInt64 >>> (y &&& 0x3f).toInt64.toUInt64).toInt64
def own_i2b (x : Int32) : Int32 := x.toInt8.toInt32
def own_i2c (x : Int32) : Int32 := x.toUInt32.toUInt16.toUInt32.toInt32
def own_Fin (tb : Tables) (e : Env) (below : List Frame) (s : State) (Q : Option Value → Heap → List Loc → Prop) (k n : Nat) (t : State) : Prop :=
  ∃ s₂ o, Steps tb e below t s₂ ∧ s₂.status = .running ∧ Ended s₂ below o ∧ ∃ v L, o = .returned v ∧ Q v s₂.heap L ∧ FrameEnd s o s₂ L k n
theorem own_go {tb : Tables} {e : Env} {below : List Frame} {s : State} {Q : Option Value → Heap → List Loc → Prop} {k n : Nat} {t t' : State}
    (h : ∀ target, Steps tb e below t' target → Steps tb e below t target) (q : own_Fin tb e below s Q k n t') : own_Fin tb e below s Q k n t := by
  obtain ⟨s2, o, h1, h2⟩ := q
  exact ⟨s2, o, h _ h1, h2⟩
def own_QP (r : Option Value) (h0 : Heap) (n0 : Nat) (v : Option Value) (h : Heap) (L : List Loc) : Prop := v = r ∧ Fr n0 L ∧ h = h0
section OwnA
variable {p : Program} {l : Launch} {e : Env} {R : Room} {s : State} {m : MethodId} {args : Array Value} {below : List Frame} {meth : Method} {c : Code} {T : State} {locs : List Loc} {cells slots : Nat}
theorem own_mono (X : Stand p l e R s m args below meth c T locs cells slots) {k n : Nat} (hk : cells ≤ k) (hn : slots ≤ n) : Stand p l e R s m args below meth c T locs k n :=
  { X with same := X.same.mono hk hn }
theorem own_ret (X : Stand p l e R s m args below meth c T locs cells slots) (hx : p.tables.exec = Jvm.exec) (hlk : meth.locks = false) {pc : Nat} {Ls : Array Slot} {w : Value} {t : FieldType} {i : Instr} {rest : List Value} (hret : meth.sig.returnType = some t) (hn : narrow t w = w)
    (hi : (i = .ireturn ∧ (t = .int ∨ t = .boolean ∨ t = .byte ∨ t = .char ∨ t = .short) ∧ ∃ z, w = .int z) ∨ (i = .lreturn ∧ t = .long ∧ ∃ z, w = .long z) ∨ (i = .dreturn ∧ t = .double ∧ ∃ z, w = .double z) ∨ (i = .freturn ∧ t = .float ∧ ∃ z, w = .float z) ∨ (i = .areturn ∧ t.isReference = true ∧ w.isRef = true))
    (hd : decode c.code pc = .ok (i, 1)) {Q : Option Value → Heap → List Loc → Prop} {k n : Nat} (hk : cells ≤ k) (hs : slots ≤ n) (hQ : Q (some w) T.heap locs) :
    own_Fin p.tables e below s Q k n (T.setTop (mkF m pc Ls (w :: rest))) := by
  obtain ⟨fs, hr, hrun, hended, hW, hsame⟩ := X.leave (v := some w) (fun h => by rw [hret] at h; cases h) hlk
  exact ⟨_, _, retOut X hx hret hn hi hd hr, hrun, hended, _, _, rfl, hQ, ⟨_, rfl⟩, hW, hsame.mono hk hs⟩
theorem own_retV (X : Stand p l e R s m args below meth c T locs cells slots) (hx : p.tables.exec = Jvm.exec) (hlk : meth.locks = false) {pc : Nat} {Ls : Array Slot} (hret : meth.sig.returnType = none)
    (hd : decode c.code pc = .ok (.return_, 1)) {Q : Option Value → Heap → List Loc → Prop} {k n : Nat} (hk : cells ≤ k) (hs : slots ≤ n) (hQ : Q none T.heap locs) :
    own_Fin p.tables e below s Q k n (T.setTop (mkF m pc Ls [])) := by
  obtain ⟨fs, hr, hrun, hended, hW, hsame⟩ := X.leave (v := none) (fun _ => rfl) hlk
  exact ⟨_, _, X.returnOut hx hret hd hr, hrun, hended, _, _, rfl, hQ, ⟨_, rfl⟩, hW, hsame.mono hk hs⟩
end OwnA
theorem own_irem {tb : Tables} [Ours tb] {e : Env} {below : List Frame} {T target : State} {m : MethodId} {c : Code} {g : JFrame} (h : At T m c below) (hx : tb.exec = Jvm.exec) (hg : g.method = m) {x y : Int32} {rest : List Value} (hd : decode c.code g.pc = .ok (.irem, 1)) (hs : g.stack = .int y :: .int x :: rest) (hy : y ≠ 0)
    (hr : Steps tb e below (T.setTop { g with pc := g.pc + 1, stack := .int (x % y) :: rest }) target) : Steps tb e below (T.setTop g) target :=
  XS.irem h hx hg hd hs hy (by rw [irem_eq_mod x y]; exact hr)
theorem own_lrem {tb : Tables} [Ours tb] {e : Env} {below : List Frame} {T target : State} {m : MethodId} {c : Code} {g : JFrame} (h : At T m c below) (hx : tb.exec = Jvm.exec) (hg : g.method = m) {x y : Int64} {rest : List Value} (hd : decode c.code g.pc = .ok (.lrem, 1)) (hs : g.stack = .long y :: .long x :: rest) (hy : y ≠ 0)
    (hr : Steps tb e below (T.setTop { g with pc := g.pc + 1, stack := .long (x % y) :: rest }) target) : Steps tb e below (T.setTop g) target :=
  XS.lrem h hx hg hd hs hy (by rw [lrem_mod x y]; exact hr)
/-! arrays by a function of the place -/
def own_set {α : Type} (f : Nat → α) (j : Int32) (v : α) : Nat → α := fun i => if i = j.toNatClampNeg then v else f i
def own_Arf (Z : State) (h : Heap) (a : Addr) (ty : FieldType) (n : Int32) (f : Nat → Value) : Prop :=
  ∃ c : Cell, Arr Z h a c ty ∧ c.slots.size = n.toNatClampNeg ∧ ¬ n < 0 ∧ ∀ i, i < n.toNatClampNeg → c.slots[i]? = some (f i)
section OwnB
variable {Z : State} {h h' : Heap} {a b : Addr} {ty : FieldType} {n j : Int32} {f : Nat → Value} {ws : List Addr} {v : Value} {sl : Nat}
theorem own_Arf.lt (F : own_Arf Z h a ty n f) : a < h.size := by obtain ⟨c, A, -⟩ := F; exact A.lt
theorem own_Arf.ext (F : own_Arf Z h a ty n f) (E : Ext h h') : own_Arf Z h' a ty n f := by obtain ⟨c, A, r⟩ := F; exact ⟨c, A.ext E, r⟩
theorem own_Arf.other (F : own_Arf Z h b ty n f) (W : Wr h h' a sl v) (q : b ≠ a) : own_Arf Z h' b ty n f := by obtain ⟨c, A, r⟩ := F; exact ⟨c, A.other W q, r⟩
theorem own_Arf.keep (F : own_Arf Z h a ty n f) (K : Keep h h' ws) (q : a ∉ ws) : own_Arf Z h' a ty n f := by obtain ⟨c, A, r⟩ := F; exact ⟨c, ⟨K.2.1 a c A.1 q, A.2⟩, r⟩
theorem own_Arf.new {k : ClassId} (A : Arr Z h a (newA k ty n) ty) (q : ¬ n < 0) : own_Arf Z h a ty n (fun _ => defaultValue ty) :=
  ⟨_, A, sz_new _ _ _, q, fun i hi => by simp [newA, hi]⟩
theorem own_Arf.wr (F : own_Arf Z h a ty n f) (W : Wr h h' a j.toNatClampNeg v) : own_Arf Z h' a ty n (fun i => if i = j.toNatClampNeg then v else f i) := by
  obtain ⟨c, A, S, q, H⟩ := F
  refine ⟨_, A.same W, by rw [sz_set]; exact S, q, fun i hi => ?_⟩
  by_cases u : i = j.toNatClampNeg
  · subst u; simp [Cell.setSlot, S, hi]
  · simp only [if_neg u, Cell.setSlot]; rw [Array.getElem?_setIfInBounds_ne (Ne.symm u)]; exact H i hi
theorem own_Arf.fn {g : Nat → Value} (F : own_Arf Z h a ty n f) (q : ∀ i, i < n.toNatClampNeg → f i = g i) : own_Arf Z h a ty n g := by
  obtain ⟨c, A, S, q', H⟩ := F
  exact ⟨c, A, S, q', fun i hi => by rw [← q i hi]; exact H i hi⟩
variable {p : Program} {l : Launch} {e : Env} {R : Room} {s : State} {m : MethodId} {args : Array Value} {below : List Frame} {meth : Method} {c : Code} {T : State} {locs : List Loc} {cells slots : Nat} {g : JFrame} {rest : List Value}
theorem own_alen (X : Stand p l e R s m args below meth c T locs cells slots) (hx : p.tables.exec = Jvm.exec) (hZ : Z.Warmed39 s.vm) (eT : T.heap = h) (F : own_Arf Z h a ty n f) (hg : g.method = m) (hs : g.stack = .ref a :: rest) (hd : decode c.code g.pc = .ok (.arraylength, 1)) (target : State)
    (hr : Steps p.tables e below (T.setTop { g with pc := g.pc + 1, stack := .int n :: rest }) target) : Steps p.tables e below (T.setTop g) target := by
  obtain ⟨cl, A, S, q, H⟩ := F
  refine X.arraylength hx (by rw [eT]; exact A.1) (State.isArrayOf_alike hZ.alike A.2.1) hg hs hd _ ?_
  rw [len_of S q]; exact hr
theorem own_iaload (X : Stand p l e R s m args below meth c T locs cells slots) (hx : p.tables.exec = Jvm.exec) (hZ : Z.Warmed39 s.vm) (eT : T.heap = h) (F : own_Arf Z h a .int n f) (hj : ¬ j < 0 ∧ j < n) {x : Int32} (hv : f j.toNatClampNeg = .int x) (hg : g.method = m) (hs : g.stack = .int j :: .ref a :: rest) (hd : decode c.code g.pc = .ok (.iaload, 1)) (target : State)
    (hr : Steps p.tables e below (T.setTop { g with pc := g.pc + 1, stack := .int x :: rest }) target) : Steps p.tables e below (T.setTop g) target := by
  obtain ⟨cl, A, S, q, H⟩ := F
  have hin := inb_of S hj
  exact X.iaload hx (by rw [eT]; exact A.1) (State.isArrayOf_alike hZ.alike A.2.1) A.2.2 hin (by rw [H _ (by rw [← S]; omega), hv]) hg hs hd _ hr
theorem own_baload (X : Stand p l e R s m args below meth c T locs cells slots) (hx : p.tables.exec = Jvm.exec) (hZ : Z.Warmed39 s.vm) (eT : T.heap = h) (F : own_Arf Z h a .byte n f) (hj : ¬ j < 0 ∧ j < n) {x : Int32} (hv : f j.toNatClampNeg = .int x) (hg : g.method = m) (hs : g.stack = .int j :: .ref a :: rest) (hd : decode c.code g.pc = .ok (.baload, 1)) (target : State)
    (hr : Steps p.tables e below (T.setTop { g with pc := g.pc + 1, stack := .int x :: rest }) target) : Steps p.tables e below (T.setTop g) target := by
  obtain ⟨cl, A, S, q, H⟩ := F
  have hin := inb_of S hj
  exact X.baloadBytes hx (by rw [eT]; exact A.1) (State.isArrayOf_alike hZ.alike A.2.1) A.2.2 hin (by rw [H _ (by rw [← S]; omega), hv]) hg hs hd _ hr
theorem own_laload (X : Stand p l e R s m args below meth c T locs cells slots) (hx : p.tables.exec = Jvm.exec) (hZ : Z.Warmed39 s.vm) (eT : T.heap = h) (F : own_Arf Z h a .long n f) (hj : ¬ j < 0 ∧ j < n) {x : Int64} (hv : f j.toNatClampNeg = .long x) (hg : g.method = m) (hs : g.stack = .int j :: .ref a :: rest) (hd : decode c.code g.pc = .ok (.laload, 1)) (target : State)
    (hr : Steps p.tables e below (T.setTop { g with pc := g.pc + 1, stack := .long x :: rest }) target) : Steps p.tables e below (T.setTop g) target := by
  obtain ⟨cl, A, S, q, H⟩ := F
  have hin := inb_of S hj
  exact X.laload hx (by rw [eT]; exact A.1) (State.isArrayOf_alike hZ.alike A.2.1) A.2.2 hin (by rw [H _ (by rw [← S]; omega), hv]) hg hs hd _ hr
theorem own_stI (X : Stand p l e R s m args below meth c T locs cells slots) (hx : p.tables.exec = Jvm.exec) (hZ : Z.Warmed39 s.vm) (eT : T.heap = h) {q : Nat → Int32} (F : own_Arf Z h a .int n (fun i => .int (q i))) (hj : ¬ j < 0 ∧ j < n) {x : Int32} (hg : g.method = m) (hs : g.stack = .int x :: .int j :: .ref a :: rest) (hd : decode c.code g.pc = .ok (.iastore, 1)) :
    ∃ T' h', Stand p l e R s m args below meth c T' (locs ++ [⟨a, j.toNatClampNeg⟩]) cells slots ∧ T'.heap = h' ∧ Wr h h' a j.toNatClampNeg (.int x) ∧ own_Arf Z h' a .int n (fun i => .int (own_set q j x i)) ∧ ∀ target, Steps p.tables e below (T'.setTop { g with pc := g.pc + 1, stack := rest }) target → Steps p.tables e below (T.setTop g) target := by
  obtain ⟨cl, A, S, q1, H⟩ := F
  obtain ⟨T', h', X', e', W, st⟩ := stI X hx hZ eT A (inb_of S hj) hg hs hd
  refine ⟨T', h', X', e', W, (own_Arf.wr ⟨cl, A, S, q1, H⟩ W).fn fun i hi => ?_, st⟩
  simp only [own_set]; split <;> rfl
theorem own_stB (X : Stand p l e R s m args below meth c T locs cells slots) (hx : p.tables.exec = Jvm.exec) (hZ : Z.Warmed39 s.vm) (eT : T.heap = h) {q : Nat → Int32} (F : own_Arf Z h a .byte n (fun i => .int (q i))) (hj : ¬ j < 0 ∧ j < n) {x : Int32} (hg : g.method = m) (hs : g.stack = .int x :: .int j :: .ref a :: rest) (hd : decode c.code g.pc = .ok (.bastore, 1)) :
    ∃ T' h', Stand p l e R s m args below meth c T' (locs ++ [⟨a, j.toNatClampNeg⟩]) cells slots ∧ T'.heap = h' ∧ Wr h h' a j.toNatClampNeg (.int (own_i2b x)) ∧ own_Arf Z h' a .byte n (fun i => .int (own_set q j (own_i2b x) i)) ∧ ∀ target, Steps p.tables e below (T'.setTop { g with pc := g.pc + 1, stack := rest }) target → Steps p.tables e below (T.setTop g) target := by
  obtain ⟨cl, A, S, q1, H⟩ := F
  obtain ⟨T', h', X', e', W, st⟩ := stB X hx hZ eT A (inb_of S hj) hg hs hd
  refine ⟨T', h', X', e', W, (own_Arf.wr ⟨cl, A, S, q1, H⟩ W).fn fun i hi => ?_, st⟩
  simp only [own_set]; split <;> rfl
theorem own_stJ (X : Stand p l e R s m args below meth c T locs cells slots) (hx : p.tables.exec = Jvm.exec) (hZ : Z.Warmed39 s.vm) (eT : T.heap = h) {q : Nat → Int64} (F : own_Arf Z h a .long n (fun i => .long (q i))) (hj : ¬ j < 0 ∧ j < n) {x : Int64} (hg : g.method = m) (hs : g.stack = .long x :: .int j :: .ref a :: rest) (hd : decode c.code g.pc = .ok (.lastore, 1)) :
    ∃ T' h', Stand p l e R s m args below meth c T' (locs ++ [⟨a, j.toNatClampNeg⟩]) cells slots ∧ T'.heap = h' ∧ Wr h h' a j.toNatClampNeg (.long x) ∧ own_Arf Z h' a .long n (fun i => .long (own_set q j x i)) ∧ ∀ target, Steps p.tables e below (T'.setTop { g with pc := g.pc + 1, stack := rest }) target → Steps p.tables e below (T.setTop g) target := by
  obtain ⟨cl, A, S, q1, H⟩ := F
  obtain ⟨T', h', X', e', W, st⟩ := stJ X hx hZ eT A (inb_of S hj) hg hs hd
  refine ⟨T', h', X', e', W, (own_Arf.wr ⟨cl, A, S, q1, H⟩ W).fn fun i hi => ?_, st⟩
  simp only [own_set]; split <;> rfl
end OwnB
def own_QL (r : Option Value) (n0 : Nat) (v : Option Value) (h : Heap) (L : List Loc) : Prop := v = r ∧ Fr n0 L ∧ True
theorem own_ne_arf {Z : State} {h : Heap} {a b : Addr} {C : String} {ty : FieldType} {n : Int32} {f : Nat → Value} {a0 : Array Value} {k : Nat} (F : Exa Z h a C) (wi : (Cond.instantiable C k).before a0 Z = true) (G : own_Arf Z h b ty n f) : a ≠ b := by
  obtain ⟨c, A, -⟩ := G; exact ne_arr F wi A
def own_Two (a b : Slot) : Prop := (a = .unset ∧ b = .unset) ∨ ∃ x : Int64, a = .val (.long x) ∧ b = .second
theorem d2_0 : decode prog_30_method_1_code 0 = .ok (.aload_n 0, 1) := by decide +kernel
theorem d2_1 : decode prog_30_method_1_code 1 = .ok (.invokespecial 1, 3) := by decide +kernel
theorem d2_4 : decode prog_30_method_1_code 4 = .ok (.aload_n 0, 1) := by decide +kernel
theorem d2_5 : decode prog_30_method_1_code 5 = .ok (.iconst 1, 1) := by decide +kernel
theorem d2_6 : decode prog_30_method_1_code 6 = .ok (.putfield 7, 3) := by decide +kernel
theorem d2_9 : decode prog_30_method_1_code 9 = .ok (.aload_n 0, 1) := by decide +kernel
theorem d2_10 : decode prog_30_method_1_code 10 = .ok (.iconst 1, 1) := by decide +kernel
theorem d2_11 : decode prog_30_method_1_code 11 = .ok (.putfield 13, 3) := by decide +kernel
theorem d2_14 : decode prog_30_method_1_code 14 = .ok (.return_, 1) := by decide +kernel
theorem pn_2 : plainName "com/example/blinkset/blinkset/TextPosition" = true := by first | (simp [plainName, overriddenIn]; done) | decide +kernel
theorem ef_2 (m : MethodId) (r0 : Addr) : entryFrame m #[(.ref r0)] 1 = mkF m 0 #[.val (.ref r0)] [] := by first | (simp [entryFrame, mkF, argsToLocals, Value.category]; done) | rfl
def rm2_room : Room := { frames := 1, cells := 0, slots := 0, locals := 12 }
def Qrm2 (Z : State) (r0 : Addr) (h0 : Heap) (n0 : Nat) (v : Option Value) (h : Heap) (L : List Loc) : Prop := v = none ∧ Fr n0 L ∧ Keep h0 h [r0] ∧ Exa Z h r0 "com/example/blinkset/blinkset/TextPosition" ∧ Fld Z h r0 "com/example/blinkset/blinkset/TextPosition" "line" "I" (.int (1 : Int32)) ∧ Fld Z h r0 "com/example/blinkset/blinkset/TextPosition" "column" "I" (.int (1 : Int32)) ∧ Fld Z h r0 "com/example/blinkset/blinkset/TextPosition" "afterCarriageReturn" "Z" (.int (0 : Int32)) ∧ Fld Z h r0 "com/example/blinkset/blinkset/TextPosition" "afterHighSurrogate" "Z" (.int (0 : Int32))
set_option maxRecDepth 65536 in
set_option maxHeartbeats 40000000 in
theorem rm2 (l : Launch) (Z : State) (a0 : Array Value) (hw : ∀ d ∈ tables_1, d.before a0 Z = true) (ws : List Jvm.Cond) (r0 : Addr) (h0 : Heap) (n0 : Nat) (Z0 : n0 ≤ h0.size) (E_r0_0 : Exa Z h0 r0 "com/example/blinkset/blinkset/TextPosition") (F_line_r0_0 : Fld Z h0 r0 "com/example/blinkset/blinkset/TextPosition" "line" "I" (.int (0 : Int32))) (F_column_r0_0 : Fld Z h0 r0 "com/example/blinkset/blinkset/TextPosition" "column" "I" (.int (0 : Int32))) (F_afterCarriageReturn_r0_0 : Fld Z h0 r0 "com/example/blinkset/blinkset/TextPosition" "afterCarriageReturn" "Z" (.int (0 : Int32))) (F_afterHighSurrogate_r0_0 : Fld Z h0 r0 "com/example/blinkset/blinkset/TextPosition" "afterHighSurrogate" "Z" (.int (0 : Int32))) (ge_r0 : n0 ≤ r0) :
    MetFree l (⟨"com/example/blinkset/blinkset/TextPosition", "<init>", "()V"⟩ : MethodName) (head1 (Jvm.Cond.code (⟨"com/example/blinkset/blinkset/TextPosition", "<init>", "()V"⟩ : MethodName) prog_30_method_1_code 1 none :: ws) rm2_room) (fun a U => a = #[(.ref r0)] ∧ Z.Warmed39 U.vm ∧ U.heap = h0) (fun _ _ _ _ _ => True) (fun _ U o U' => ∃ v L, o = .returned v ∧ Qrm2 Z r0 h0 n0 v U'.heap L ∧ FrameEnd U o U' L rm2_room.cells rm2_room.slots) := by
  refine MetFree.of_bodySF (plainFor_of_name pn_2) hisR ?_
  intro p e s m args below meth c s₁ Bd hml0 hP hK
  obtain ⟨rfl, hZ, hh⟩ := hP
  have hx := Bd.exec
  have hby := Bd.bytes
  have hml : c.maxLocals = 1 := hml0
  have hown : s.vm.findClass "com/example/blinkset/blinkset/TextPosition" = some m.cls := findClass_of_methodNamed Bd.named
  have hnm := (name_of_methodNamed Bd.named Bd.method).1
  have hlk : meth.locks = false := BodyLoose.notSynchronized Bd
  have X0 : Stand p l e rm2_room s m #[(.ref r0)] below meth c s₁ [] 0 0 := Stand.of_body Bd
  have e0 : s₁.heap = h0 := by rw [← hh, Bd.state]; rfl
  have N0 := Fr.nil n0
  show own_Fin p.tables e below s (Qrm2 Z r0 h0 n0) rm2_room.cells rm2_room.slots (s₁.setTop (entryFrame m #[(.ref r0)] 1))
  rw [ef_2]
  show own_Fin _ _ _ _ _ _ _ (s₁.setTop (mkF m 0 #[.val (.ref r0)] []))
  have K0 := Keep.refl h0 [r0]
  refine own_go (fun _ k => XS.aloadN X0.here hx rfl (hb hby d2_0) rfl rfl k) ?_
  show own_Fin _ _ _ _ _ _ _ (s₁.setTop (mkF m 1 #[.val (.ref r0)] [(.ref r0)]))
  obtain ⟨T1, X1, e1, st1⟩ := initO X0 hx hZ hown (hw _ (List.mem_of_getElem? (i := 12) rfl)) (hw _ (List.mem_of_getElem? (i := 13) rfl)) (hw _ (List.mem_of_getElem? (i := 14) rfl)) e0 (g := (mkF m 1 #[.val (.ref r0)] [(.ref r0)])) rfl (by rw [hml]; rfl) rfl (hb hby d2_1) (by decide) (W := 0) (by show 2 * 0 + _ ≤ _; exact Nat.le_of_eq rfl) (by decide)
  refine own_go (fun tg k => st1 tg k) ?_
  show own_Fin _ _ _ _ _ _ _ (T1.setTop (mkF m 4 #[.val (.ref r0)] []))
  refine own_go (fun _ k => XS.aloadN X1.here hx rfl (hb hby d2_4) rfl rfl k) ?_
  show own_Fin _ _ _ _ _ _ _ (T1.setTop (mkF m 5 #[.val (.ref r0)] [(.ref r0)]))
  refine own_go (fun _ k => XS.iconst X1.here hx rfl (hb hby d2_5) k) ?_
  show own_Fin _ _ _ _ _ _ _ (T1.setTop (mkF m 6 #[.val (.ref r0)] [(.int (1 : Int32)), (.ref r0)]))
  obtain ⟨T2, h2, X2, e2, W2, st2⟩ := putF X1 hx hZ hown (host := "") (Or.inl (hw _ (List.mem_of_getElem? (i := 15) rfl))) Via.refl e1 F_line_r0_0 E_r0_0 (Or.inl (hw _ (List.mem_of_getElem? (i := 16) rfl))) (hw _ (List.mem_of_getElem? (i := 7) rfl)) (ty := .int) (by decide) rfl rfl (g := (mkF m 6 #[.val (.ref r0)] [(.int (1 : Int32)), (.ref r0)])) rfl rfl (hb hby d2_6)
  have E_r0_2 := E_r0_0.wr W2
  have F_column_r0_2 := F_column_r0_0.other W2 (Or.inr (slot_ne (Or.inl (hw _ (List.mem_of_getElem? (i := 18) rfl))) (Or.inl (hw _ (List.mem_of_getElem? (i := 16) rfl))) (by decide) (t := .int) (t' := .int) (by decide) (by decide)))
  have F_afterCarriageReturn_r0_2 := F_afterCarriageReturn_r0_0.other W2 (Or.inr (slot_ne (Or.inl (hw _ (List.mem_of_getElem? (i := 25) rfl))) (Or.inl (hw _ (List.mem_of_getElem? (i := 16) rfl))) (by decide) (t := .boolean) (t' := .int) (by decide) (by decide)))
  have F_afterHighSurrogate_r0_2 := F_afterHighSurrogate_r0_0.other W2 (Or.inr (slot_ne (Or.inl (hw _ (List.mem_of_getElem? (i := 27) rfl))) (Or.inl (hw _ (List.mem_of_getElem? (i := 16) rfl))) (by decide) (t := .boolean) (t' := .int) (by decide) (by decide)))
  have K2 := K0.wr W2 (Or.inl (List.mem_of_getElem? (i := 0) rfl))
  have N2 := Fr.snoc X2 N0 ge_r0
  have Z2 : n0 ≤ h2.size := Nat.le_trans Z0 (Keep.of_wr W2).1
  have F_line_r0_2 := F_line_r0_0.same W2
  refine own_go (fun tg k => st2 tg k) ?_
  show own_Fin _ _ _ _ _ _ _ (T2.setTop (mkF m 9 #[.val (.ref r0)] []))
  refine own_go (fun _ k => XS.aloadN X2.here hx rfl (hb hby d2_9) rfl rfl k) ?_
  show own_Fin _ _ _ _ _ _ _ (T2.setTop (mkF m 10 #[.val (.ref r0)] [(.ref r0)]))
  refine own_go (fun _ k => XS.iconst X2.here hx rfl (hb hby d2_10) k) ?_
  show own_Fin _ _ _ _ _ _ _ (T2.setTop (mkF m 11 #[.val (.ref r0)] [(.int (1 : Int32)), (.ref r0)]))
  obtain ⟨T3, h3, X3, e3, W3, st3⟩ := putF X2 hx hZ hown (host := "") (Or.inl (hw _ (List.mem_of_getElem? (i := 17) rfl))) Via.refl e2 F_column_r0_2 E_r0_2 (Or.inl (hw _ (List.mem_of_getElem? (i := 18) rfl))) (hw _ (List.mem_of_getElem? (i := 7) rfl)) (ty := .int) (by decide) rfl rfl (g := (mkF m 11 #[.val (.ref r0)] [(.int (1 : Int32)), (.ref r0)])) rfl rfl (hb hby d2_11)
  have E_r0_3 := E_r0_2.wr W3
  have F_line_r0_3 := F_line_r0_2.other W3 (Or.inr (slot_ne (Or.inl (hw _ (List.mem_of_getElem? (i := 16) rfl))) (Or.inl (hw _ (List.mem_of_getElem? (i := 18) rfl))) (by decide) (t := .int) (t' := .int) (by decide) (by decide)))
  have F_afterCarriageReturn_r0_3 := F_afterCarriageReturn_r0_2.other W3 (Or.inr (slot_ne (Or.inl (hw _ (List.mem_of_getElem? (i := 25) rfl))) (Or.inl (hw _ (List.mem_of_getElem? (i := 18) rfl))) (by decide) (t := .boolean) (t' := .int) (by decide) (by decide)))
  have F_afterHighSurrogate_r0_3 := F_afterHighSurrogate_r0_2.other W3 (Or.inr (slot_ne (Or.inl (hw _ (List.mem_of_getElem? (i := 27) rfl))) (Or.inl (hw _ (List.mem_of_getElem? (i := 18) rfl))) (by decide) (t := .boolean) (t' := .int) (by decide) (by decide)))
  have K3 := K2.wr W3 (Or.inl (List.mem_of_getElem? (i := 0) rfl))
  have N3 := Fr.snoc X3 N2 ge_r0
  have Z3 : n0 ≤ h3.size := Nat.le_trans Z2 (Keep.of_wr W3).1
  have F_column_r0_3 := F_column_r0_2.same W3
  refine own_go (fun tg k => st3 tg k) ?_
  show own_Fin _ _ _ _ _ _ _ (T3.setTop (mkF m 14 #[.val (.ref r0)] []))
  refine own_retV X3 hx hlk Bd.returns (hb hby d2_14) (Nat.le_of_ble_eq_true rfl) (Nat.le_of_ble_eq_true rfl) ?_
  rw [e3]
  refine ⟨rfl, N3, K3, E_r0_3, ?_, ?_, ?_, ?_⟩
  · (exact F_line_r0_3)
  · (exact F_column_r0_3)
  · (exact F_afterCarriageReturn_r0_3)
  · (exact F_afterHighSurrogate_r0_3)
theorem d4_0 : decode prog_30_method_7_code 0 = .ok (.aload_n 0, 1) := by decide +kernel
theorem d4_1 : decode prog_30_method_7_code 1 = .ok (.dup, 1) := by decide +kernel
theorem d4_2 : decode prog_30_method_7_code 2 = .ok (.getfield 13, 3) := by decide +kernel
theorem d4_5 : decode prog_30_method_7_code 5 = .ok (.iload_n 1, 1) := by decide +kernel
theorem d4_6 : decode prog_30_method_7_code 6 = .ok (.iadd, 1) := by decide +kernel
theorem d4_7 : decode prog_30_method_7_code 7 = .ok (.putfield 13, 3) := by decide +kernel
theorem d4_10 : decode prog_30_method_7_code 10 = .ok (.aload_n 0, 1) := by decide +kernel
theorem d4_11 : decode prog_30_method_7_code 11 = .ok (.iconst 0, 1) := by decide +kernel
theorem d4_12 : decode prog_30_method_7_code 12 = .ok (.putfield 16, 3) := by decide +kernel
theorem d4_15 : decode prog_30_method_7_code 15 = .ok (.aload_n 0, 1) := by decide +kernel
theorem d4_16 : decode prog_30_method_7_code 16 = .ok (.iconst 0, 1) := by decide +kernel
theorem d4_17 : decode prog_30_method_7_code 17 = .ok (.putfield 20, 3) := by decide +kernel
theorem d4_20 : decode prog_30_method_7_code 20 = .ok (.return_, 1) := by decide +kernel
theorem pn_4 : plainName "com/example/blinkset/blinkset/TextPosition" = true := by first | (simp [plainName, overriddenIn]; done) | decide +kernel
theorem ef_4 (m : MethodId) (r0 : Addr) (p1 : Int32) : entryFrame m #[(.ref r0), (.int p1)] 2 = mkF m 0 #[.val (.ref r0), .val (.int p1)] [] := by first | (simp [entryFrame, mkF, argsToLocals, Value.category]; done) | rfl
def rm4_room : Room := { frames := 0, cells := 0, slots := 0, locals := 0 }
def Qrm4 (Z : State) (r0 : Addr) (p1 : Int32) (x1 : Int32) (x2 : Int32) (h0 : Heap) (n0 : Nat) (v : Option Value) (h : Heap) (L : List Loc) : Prop := v = none ∧ Fr n0 L ∧ Keep h0 h [r0] ∧ Exa Z h r0 "com/example/blinkset/blinkset/TextPosition" ∧ Fld Z h r0 "com/example/blinkset/blinkset/TextPosition" "line" "I" (.int x1) ∧ Fld Z h r0 "com/example/blinkset/blinkset/TextPosition" "column" "I" (.int (x2 + p1)) ∧ Fld Z h r0 "com/example/blinkset/blinkset/TextPosition" "afterCarriageReturn" "Z" (.int (0 : Int32)) ∧ Fld Z h r0 "com/example/blinkset/blinkset/TextPosition" "afterHighSurrogate" "Z" (.int (0 : Int32))
set_option maxRecDepth 65536 in
set_option maxHeartbeats 40000000 in
theorem rm4 (l : Launch) (Z : State) (a0 : Array Value) (hw : ∀ d ∈ tables_1, d.before a0 Z = true) (ws : List Jvm.Cond) (r0 : Addr) (p1 : Int32) (x1 : Int32) (x2 : Int32) (h0 : Heap) (n0 : Nat) (Z0 : n0 ≤ h0.size) (E_r0_0 : Exa Z h0 r0 "com/example/blinkset/blinkset/TextPosition") (F_line_r0_0 : Fld Z h0 r0 "com/example/blinkset/blinkset/TextPosition" "line" "I" (.int x1)) (F_column_r0_0 : Fld Z h0 r0 "com/example/blinkset/blinkset/TextPosition" "column" "I" (.int x2)) (F_afterCarriageReturn_r0_0 : Fld Z h0 r0 "com/example/blinkset/blinkset/TextPosition" "afterCarriageReturn" "Z" (.int (0 : Int32))) (F_afterHighSurrogate_r0_0 : Fld Z h0 r0 "com/example/blinkset/blinkset/TextPosition" "afterHighSurrogate" "Z" (.int (0 : Int32))) (ge_r0 : n0 ≤ r0) :
    MetFree l (⟨"com/example/blinkset/blinkset/TextPosition", "advanceColumns", "(I)V"⟩ : MethodName) (head1 (Jvm.Cond.code (⟨"com/example/blinkset/blinkset/TextPosition", "advanceColumns", "(I)V"⟩ : MethodName) prog_30_method_7_code 2 none :: ws) rm4_room) (fun a U => a = #[(.ref r0), (.int p1)] ∧ Z.Warmed39 U.vm ∧ U.heap = h0) (fun _ _ _ _ _ => True) (fun _ U o U' => ∃ v L, o = .returned v ∧ Qrm4 Z r0 p1 x1 x2 h0 n0 v U'.heap L ∧ FrameEnd U o U' L rm4_room.cells rm4_room.slots) := by
  refine MetFree.of_bodySF (plainFor_of_name pn_4) hisR ?_
  intro p e s m args below meth c s₁ Bd hml0 hP hK
  obtain ⟨rfl, hZ, hh⟩ := hP
  have hx := Bd.exec
  have hby := Bd.bytes
  have hml : c.maxLocals = 2 := hml0
  have hown : s.vm.findClass "com/example/blinkset/blinkset/TextPosition" = some m.cls := findClass_of_methodNamed Bd.named
  have hnm := (name_of_methodNamed Bd.named Bd.method).1
  have hlk : meth.locks = false := BodyLoose.notSynchronized Bd
  have X0 : Stand p l e rm4_room s m #[(.ref r0), (.int p1)] below meth c s₁ [] 0 0 := Stand.of_body Bd
  have e0 : s₁.heap = h0 := by rw [← hh, Bd.state]; rfl
  have N0 := Fr.nil n0
  show own_Fin p.tables e below s (Qrm4 Z r0 p1 x1 x2 h0 n0) rm4_room.cells rm4_room.slots (s₁.setTop (entryFrame m #[(.ref r0), (.int p1)] 2))
  rw [ef_4]
  show own_Fin _ _ _ _ _ _ _ (s₁.setTop (mkF m 0 #[.val (.ref r0), .val (.int p1)] []))
  have K0 := Keep.refl h0 [r0]
  refine own_go (fun _ k => XS.aloadN X0.here hx rfl (hb hby d4_0) rfl rfl k) ?_
  show own_Fin _ _ _ _ _ _ _ (s₁.setTop (mkF m 1 #[.val (.ref r0), .val (.int p1)] [(.ref r0)]))
  refine own_go (fun _ k => XS.dup X0.here hx rfl (hb hby d4_1) rfl rfl k) ?_
  show own_Fin _ _ _ _ _ _ _ (s₁.setTop (mkF m 2 #[.val (.ref r0), .val (.int p1)] [(.ref r0), (.ref r0)]))
  obtain ⟨T1, X1, e1, st1⟩ := getF X0 hx hZ hown (host := "") (Or.inl (hw _ (List.mem_of_getElem? (i := 17) rfl))) Via.refl e0 F_column_r0_0 (g := (mkF m 2 #[.val (.ref r0), .val (.int p1)] [(.ref r0), (.ref r0)])) rfl rfl (hb hby d4_2)
  refine own_go (fun tg k => st1 tg k) ?_
  show own_Fin _ _ _ _ _ _ _ (T1.setTop (mkF m 5 #[.val (.ref r0), .val (.int p1)] [(.int x2), (.ref r0)]))
  refine own_go (fun _ k => XS.iloadN X1.here hx rfl (hb hby d4_5) rfl k) ?_
  show own_Fin _ _ _ _ _ _ _ (T1.setTop (mkF m 6 #[.val (.ref r0), .val (.int p1)] [(.int p1), (.int x2), (.ref r0)]))
  refine own_go (fun _ k => XS.iadd X1.here hx rfl (hb hby d4_6) rfl k) ?_
  show own_Fin _ _ _ _ _ _ _ (T1.setTop (mkF m 7 #[.val (.ref r0), .val (.int p1)] [(.int (x2 + p1)), (.ref r0)]))
  obtain ⟨T2, h2, X2, e2, W2, st2⟩ := putF X1 hx hZ hown (host := "") (Or.inl (hw _ (List.mem_of_getElem? (i := 17) rfl))) Via.refl e1 F_column_r0_0 E_r0_0 (Or.inl (hw _ (List.mem_of_getElem? (i := 18) rfl))) (hw _ (List.mem_of_getElem? (i := 7) rfl)) (ty := .int) (by decide) rfl rfl (g := (mkF m 7 #[.val (.ref r0), .val (.int p1)] [(.int (x2 + p1)), (.ref r0)])) rfl rfl (hb hby d4_7)
  have E_r0_2 := E_r0_0.wr W2
  have F_line_r0_2 := F_line_r0_0.other W2 (Or.inr (slot_ne (Or.inl (hw _ (List.mem_of_getElem? (i := 16) rfl))) (Or.inl (hw _ (List.mem_of_getElem? (i := 18) rfl))) (by decide) (t := .int) (t' := .int) (by decide) (by decide)))
  have F_afterCarriageReturn_r0_2 := F_afterCarriageReturn_r0_0.other W2 (Or.inr (slot_ne (Or.inl (hw _ (List.mem_of_getElem? (i := 25) rfl))) (Or.inl (hw _ (List.mem_of_getElem? (i := 18) rfl))) (by decide) (t := .boolean) (t' := .int) (by decide) (by decide)))
  have F_afterHighSurrogate_r0_2 := F_afterHighSurrogate_r0_0.other W2 (Or.inr (slot_ne (Or.inl (hw _ (List.mem_of_getElem? (i := 27) rfl))) (Or.inl (hw _ (List.mem_of_getElem? (i := 18) rfl))) (by decide) (t := .boolean) (t' := .int) (by decide) (by decide)))
  have K2 := K0.wr W2 (Or.inl (List.mem_of_getElem? (i := 0) rfl))
  have N2 := Fr.snoc X2 N0 ge_r0
  have Z2 : n0 ≤ h2.size := Nat.le_trans Z0 (Keep.of_wr W2).1
  have F_column_r0_2 := F_column_r0_0.same W2
  refine own_go (fun tg k => st2 tg k) ?_
  show own_Fin _ _ _ _ _ _ _ (T2.setTop (mkF m 10 #[.val (.ref r0), .val (.int p1)] []))
  refine own_go (fun _ k => XS.aloadN X2.here hx rfl (hb hby d4_10) rfl rfl k) ?_
  show own_Fin _ _ _ _ _ _ _ (T2.setTop (mkF m 11 #[.val (.ref r0), .val (.int p1)] [(.ref r0)]))
  refine own_go (fun _ k => XS.iconst X2.here hx rfl (hb hby d4_11) k) ?_
  show own_Fin _ _ _ _ _ _ _ (T2.setTop (mkF m 12 #[.val (.ref r0), .val (.int p1)] [(.int (0 : Int32)), (.ref r0)]))
  obtain ⟨T3, h3, X3, e3, W3, st3⟩ := putFN X2 hx hZ hown (hw _ (List.mem_of_getElem? (i := 24) rfl)) Via.refl e2 F_afterCarriageReturn_r0_2 E_r0_2 (Or.inl (hw _ (List.mem_of_getElem? (i := 25) rfl))) (hw _ (List.mem_of_getElem? (i := 7) rfl)) (ty := .boolean) (v' := (.int (0 : Int32))) (by decide) rfl (by decide) (g := (mkF m 12 #[.val (.ref r0), .val (.int p1)] [(.int (0 : Int32)), (.ref r0)])) rfl rfl (hb hby d4_12)
  have E_r0_3 := E_r0_2.wr W3
  have F_line_r0_3 := F_line_r0_2.other W3 (Or.inr (slot_ne (Or.inl (hw _ (List.mem_of_getElem? (i := 16) rfl))) (Or.inl (hw _ (List.mem_of_getElem? (i := 25) rfl))) (by decide) (t := .int) (t' := .boolean) (by decide) (by decide)))
  have F_column_r0_3 := F_column_r0_2.other W3 (Or.inr (slot_ne (Or.inl (hw _ (List.mem_of_getElem? (i := 18) rfl))) (Or.inl (hw _ (List.mem_of_getElem? (i := 25) rfl))) (by decide) (t := .int) (t' := .boolean) (by decide) (by decide)))
  have F_afterHighSurrogate_r0_3 := F_afterHighSurrogate_r0_2.other W3 (Or.inr (slot_ne (Or.inl (hw _ (List.mem_of_getElem? (i := 27) rfl))) (Or.inl (hw _ (List.mem_of_getElem? (i := 25) rfl))) (by decide) (t := .boolean) (t' := .boolean) (by decide) (by decide)))
  have K3 := K2.wr W3 (Or.inl (List.mem_of_getElem? (i := 0) rfl))
  have N3 := Fr.snoc X3 N2 ge_r0
  have Z3 : n0 ≤ h3.size := Nat.le_trans Z2 (Keep.of_wr W3).1
  have F_afterCarriageReturn_r0_3 := F_afterCarriageReturn_r0_2.same W3
  refine own_go (fun tg k => st3 tg k) ?_
  show own_Fin _ _ _ _ _ _ _ (T3.setTop (mkF m 15 #[.val (.ref r0), .val (.int p1)] []))
  refine own_go (fun _ k => XS.aloadN X3.here hx rfl (hb hby d4_15) rfl rfl k) ?_
  show own_Fin _ _ _ _ _ _ _ (T3.setTop (mkF m 16 #[.val (.ref r0), .val (.int p1)] [(.ref r0)]))
  refine own_go (fun _ k => XS.iconst X3.here hx rfl (hb hby d4_16) k) ?_
  show own_Fin _ _ _ _ _ _ _ (T3.setTop (mkF m 17 #[.val (.ref r0), .val (.int p1)] [(.int (0 : Int32)), (.ref r0)]))
  obtain ⟨T4, h4, X4, e4, W4, st4⟩ := putFN X3 hx hZ hown (hw _ (List.mem_of_getElem? (i := 26) rfl)) Via.refl e3 F_afterHighSurrogate_r0_3 E_r0_3 (Or.inl (hw _ (List.mem_of_getElem? (i := 27) rfl))) (hw _ (List.mem_of_getElem? (i := 7) rfl)) (ty := .boolean) (v' := (.int (0 : Int32))) (by decide) rfl (by decide) (g := (mkF m 17 #[.val (.ref r0), .val (.int p1)] [(.int (0 : Int32)), (.ref r0)])) rfl rfl (hb hby d4_17)
  have E_r0_4 := E_r0_3.wr W4
  have F_line_r0_4 := F_line_r0_3.other W4 (Or.inr (slot_ne (Or.inl (hw _ (List.mem_of_getElem? (i := 16) rfl))) (Or.inl (hw _ (List.mem_of_getElem? (i := 27) rfl))) (by decide) (t := .int) (t' := .boolean) (by decide) (by decide)))
  have F_column_r0_4 := F_column_r0_3.other W4 (Or.inr (slot_ne (Or.inl (hw _ (List.mem_of_getElem? (i := 18) rfl))) (Or.inl (hw _ (List.mem_of_getElem? (i := 27) rfl))) (by decide) (t := .int) (t' := .boolean) (by decide) (by decide)))
  have F_afterCarriageReturn_r0_4 := F_afterCarriageReturn_r0_3.other W4 (Or.inr (slot_ne (Or.inl (hw _ (List.mem_of_getElem? (i := 25) rfl))) (Or.inl (hw _ (List.mem_of_getElem? (i := 27) rfl))) (by decide) (t := .boolean) (t' := .boolean) (by decide) (by decide)))
  have K4 := K3.wr W4 (Or.inl (List.mem_of_getElem? (i := 0) rfl))
  have N4 := Fr.snoc X4 N3 ge_r0
  have Z4 : n0 ≤ h4.size := Nat.le_trans Z3 (Keep.of_wr W4).1
  have F_afterHighSurrogate_r0_4 := F_afterHighSurrogate_r0_3.same W4
  refine own_go (fun tg k => st4 tg k) ?_
  show own_Fin _ _ _ _ _ _ _ (T4.setTop (mkF m 20 #[.val (.ref r0), .val (.int p1)] []))
  refine own_retV X4 hx hlk Bd.returns (hb hby d4_20) (Nat.le_of_ble_eq_true rfl) (Nat.le_of_ble_eq_true rfl) ?_
  rw [e4]
  refine ⟨rfl, N4, K4, E_r0_4, ?_, ?_, ?_, ?_⟩
  · (exact F_line_r0_4)
  · (exact F_column_r0_4)
  · (exact F_afterCarriageReturn_r0_4)
  · (exact F_afterHighSurrogate_r0_4)
theorem d6_0 : decode jdk_89_method_14_code 0 = .ok (.iload_n 0, 1) := by decide +kernel
theorem d6_1 : decode jdk_89_method_14_code 1 = .ok (.ldc 75, 2) := by decide +kernel
theorem d6_3 : decode jdk_89_method_14_code 3 = .ok (.if_icmp .lt 13, 3) := by decide +kernel
theorem d6_16 : decode jdk_89_method_14_code 16 = .ok (.iconst 0, 1) := by decide +kernel
theorem d6_17 : decode jdk_89_method_14_code 17 = .ok (.ireturn, 1) := by decide +kernel
theorem pn_6 : plainName "java/lang/Character" = true := by first | (simp [plainName, overriddenIn]; done) | decide +kernel
theorem ef_6 (m : MethodId) (p0 : Int32) : entryFrame m #[(.int p0)] 1 = mkF m 0 #[.val (.int p0)] [] := by first | (simp [entryFrame, mkF, argsToLocals, Value.category]; done) | rfl
def rm6_room : Room := { frames := 0, cells := 0, slots := 0, locals := 0 }
def Qrm6 (Z : State) (p0 : Int32) (h0 : Heap) (n0 : Nat) (v : Option Value) (h : Heap) (L : List Loc) : Prop := v = some (.int (0 : Int32)) ∧ Fr n0 L ∧ h = h0
set_option maxRecDepth 65536 in
set_option maxHeartbeats 40000000 in
theorem rm6 (l : Launch) (Z : State) (a0 : Array Value) (hw : ∀ d ∈ tables_1, d.before a0 Z = true) (ws : List Jvm.Cond) (p0 : Int32) (h0 : Heap) (n0 : Nat) (Z0 : n0 ≤ h0.size) (hp : p0 < (55296 : Int32)) :
    MetFree l (⟨"java/lang/Character", "isHighSurrogate", "(C)Z"⟩ : MethodName) (head1 (Jvm.Cond.code (⟨"java/lang/Character", "isHighSurrogate", "(C)Z"⟩ : MethodName) jdk_89_method_14_code 1 (some .boolean) :: ws) rm6_room) (fun a U => a = #[(.int p0)] ∧ Z.Warmed39 U.vm ∧ U.heap = h0) (fun _ _ _ _ _ => True) (fun _ U o U' => ∃ v L, o = .returned v ∧ Qrm6 Z p0 h0 n0 v U'.heap L ∧ FrameEnd U o U' L rm6_room.cells rm6_room.slots) := by
  refine MetFree.of_bodySF (plainFor_of_name pn_6) hisR ?_
  intro p e s m args below meth c s₁ Bd hml0 hP hK
  obtain ⟨rfl, hZ, hh⟩ := hP
  have hx := Bd.exec
  have hby := Bd.bytes
  have hml : c.maxLocals = 1 := hml0
  have hown : s.vm.findClass "java/lang/Character" = some m.cls := findClass_of_methodNamed Bd.named
  have hnm := (name_of_methodNamed Bd.named Bd.method).1
  have hlk : meth.locks = false := BodyLoose.notSynchronized Bd
  have X0 : Stand p l e rm6_room s m #[(.int p0)] below meth c s₁ [] 0 0 := Stand.of_body Bd
  have e0 : s₁.heap = h0 := by rw [← hh, Bd.state]; rfl
  have N0 := Fr.nil n0
  show own_Fin p.tables e below s (Qrm6 Z p0 h0 n0) rm6_room.cells rm6_room.slots (s₁.setTop (entryFrame m #[(.int p0)] 1))
  rw [ef_6]
  show own_Fin _ _ _ _ _ _ _ (s₁.setTop (mkF m 0 #[.val (.int p0)] []))
  refine own_go (fun _ k => XS.iloadN X0.here hx rfl (hb hby d6_0) rfl k) ?_
  show own_Fin _ _ _ _ _ _ _ (s₁.setTop (mkF m 1 #[.val (.int p0)] [(.int p0)]))
  refine own_go (fun _ k => X0.ldcInt hx hown (mvT hZ (hw _ (List.mem_of_getElem? (i := 37) rfl))) (g := (mkF m 1 #[.val (.int p0)] [(.int p0)])) rfl (hb hby d6_1) _ k) ?_
  show own_Fin _ _ _ _ _ _ _ (s₁.setTop (mkF m 3 #[.val (.int p0)] [(.int (55296 : Int32)), (.int p0)]))
  have hc3 : p0 < (55296 : Int32) := hp
  refine own_go (fun _ k => XS.icmpYes X0.here hx rfl (pc0 := 3) (pc' := 16) rfl (hb hby d6_3) rfl (tlt hc3).1 (by decide) (by decide) k) ?_
  show own_Fin _ _ _ _ _ _ _ (s₁.setTop (mkF m 16 #[.val (.int p0)] []))
  refine own_go (fun _ k => XS.iconst X0.here hx rfl (hb hby d6_16) k) ?_
  show own_Fin _ _ _ _ _ _ _ (s₁.setTop (mkF m 17 #[.val (.int p0)] [(.int (0 : Int32))]))
  refine own_ret X0 hx hlk Bd.returns rfl (Or.inl ⟨rfl, by simp, _, rfl⟩) (hb hby d6_17) (Nat.le_of_ble_eq_true rfl) (Nat.le_of_ble_eq_true rfl) ?_
  refine ⟨?_, N0, e0⟩
  · rfl
theorem own_pd30 : parseMethodDescriptor "(C)Z" = some ⟨[.char], some .boolean⟩ := by decide +kernel
theorem d5_0 : decode prog_30_method_6_code 0 = .ok (.iload_n 1, 1) := by decide +kernel
theorem d5_1 : decode prog_30_method_6_code 1 = .ok (.bipush 10, 2) := by decide +kernel
theorem d5_3 : decode prog_30_method_6_code 3 = .ok (.if_icmp .ne 28, 3) := by decide +kernel
theorem d5_6 : decode prog_30_method_6_code 6 = .ok (.aload_n 0, 1) := by decide +kernel
theorem d5_7 : decode prog_30_method_6_code 7 = .ok (.getfield 16, 3) := by decide +kernel
theorem d5_10 : decode prog_30_method_6_code 10 = .ok (.ifCond .ne 13, 3) := by decide +kernel
theorem d5_13 : decode prog_30_method_6_code 13 = .ok (.aload_n 0, 1) := by decide +kernel
theorem d5_14 : decode prog_30_method_6_code 14 = .ok (.dup, 1) := by decide +kernel
theorem d5_15 : decode prog_30_method_6_code 15 = .ok (.getfield 7, 3) := by decide +kernel
theorem d5_18 : decode prog_30_method_6_code 18 = .ok (.iconst 1, 1) := by decide +kernel
theorem d5_19 : decode prog_30_method_6_code 19 = .ok (.iadd, 1) := by decide +kernel
theorem d5_20 : decode prog_30_method_6_code 20 = .ok (.putfield 7, 3) := by decide +kernel
theorem d5_23 : decode prog_30_method_6_code 23 = .ok (.aload_n 0, 1) := by decide +kernel
theorem d5_24 : decode prog_30_method_6_code 24 = .ok (.iconst 1, 1) := by decide +kernel
theorem d5_25 : decode prog_30_method_6_code 25 = .ok (.putfield 13, 3) := by decide +kernel
theorem d5_28 : decode prog_30_method_6_code 28 = .ok (.goto 51, 3) := by decide +kernel
theorem d5_79 : decode prog_30_method_6_code 79 = .ok (.aload_n 0, 1) := by decide +kernel
theorem d5_80 : decode prog_30_method_6_code 80 = .ok (.iload_n 1, 1) := by decide +kernel
theorem d5_81 : decode prog_30_method_6_code 81 = .ok (.bipush 13, 2) := by decide +kernel
theorem d5_83 : decode prog_30_method_6_code 83 = .ok (.if_icmp .ne 7, 3) := by decide +kernel
theorem d5_90 : decode prog_30_method_6_code 90 = .ok (.iconst 0, 1) := by decide +kernel
theorem d5_91 : decode prog_30_method_6_code 91 = .ok (.putfield 16, 3) := by decide +kernel
theorem d5_94 : decode prog_30_method_6_code 94 = .ok (.aload_n 0, 1) := by decide +kernel
theorem d5_95 : decode prog_30_method_6_code 95 = .ok (.iload_n 1, 1) := by decide +kernel
theorem d5_96 : decode prog_30_method_6_code 96 = .ok (.invokestatic 29, 3) := by decide +kernel
theorem d5_99 : decode prog_30_method_6_code 99 = .ok (.putfield 20, 3) := by decide +kernel
theorem d5_102 : decode prog_30_method_6_code 102 = .ok (.return_, 1) := by decide +kernel
theorem pn_5 : plainName "com/example/blinkset/blinkset/TextPosition" = true := by first | (simp [plainName, overriddenIn]; done) | decide +kernel
theorem ef_5 (m : MethodId) (r0 : Addr) (p1 : Int32) : entryFrame m #[(.ref r0), (.int p1)] 2 = mkF m 0 #[.val (.ref r0), .val (.int p1)] [] := by first | (simp [entryFrame, mkF, argsToLocals, Value.category]; done) | rfl
def rm5_room : Room := { frames := 1, cells := 0, slots := 0, locals := 13 }
def Qrm5 (Z : State) (r0 : Addr) (p1 : Int32) (x1 : Int32) (x2 : Int32) (h0 : Heap) (n0 : Nat) (v : Option Value) (h : Heap) (L : List Loc) : Prop := v = none ∧ Fr n0 L ∧ Keep h0 h [r0] ∧ Exa Z h r0 "com/example/blinkset/blinkset/TextPosition" ∧ Fld Z h r0 "com/example/blinkset/blinkset/TextPosition" "line" "I" (.int (x1 + (1 : Int32))) ∧ Fld Z h r0 "com/example/blinkset/blinkset/TextPosition" "column" "I" (.int (1 : Int32)) ∧ Fld Z h r0 "com/example/blinkset/blinkset/TextPosition" "afterCarriageReturn" "Z" (.int (0 : Int32)) ∧ Fld Z h r0 "com/example/blinkset/blinkset/TextPosition" "afterHighSurrogate" "Z" (.int (0 : Int32))
set_option maxRecDepth 65536 in
set_option maxHeartbeats 40000000 in
theorem rm5 (l : Launch) (Z : State) (a0 : Array Value) (hw : ∀ d ∈ tables_1, d.before a0 Z = true) (ws : List Jvm.Cond) (r0 : Addr) (p1 : Int32) (x1 : Int32) (x2 : Int32) (h0 : Heap) (n0 : Nat) (Z0 : n0 ≤ h0.size) (E_r0_0 : Exa Z h0 r0 "com/example/blinkset/blinkset/TextPosition") (F_line_r0_0 : Fld Z h0 r0 "com/example/blinkset/blinkset/TextPosition" "line" "I" (.int x1)) (F_column_r0_0 : Fld Z h0 r0 "com/example/blinkset/blinkset/TextPosition" "column" "I" (.int x2)) (F_afterCarriageReturn_r0_0 : Fld Z h0 r0 "com/example/blinkset/blinkset/TextPosition" "afterCarriageReturn" "Z" (.int (0 : Int32))) (F_afterHighSurrogate_r0_0 : Fld Z h0 r0 "com/example/blinkset/blinkset/TextPosition" "afterHighSurrogate" "Z" (.int (0 : Int32))) (ge_r0 : n0 ≤ r0) (hp : p1 = (10 : Int32)) :
    MetFree l (⟨"com/example/blinkset/blinkset/TextPosition", "advance", "(C)V"⟩ : MethodName) (head1 (Jvm.Cond.code (⟨"com/example/blinkset/blinkset/TextPosition", "advance", "(C)V"⟩ : MethodName) prog_30_method_6_code 2 none :: ws) rm5_room) (fun a U => a = #[(.ref r0), (.int p1)] ∧ Z.Warmed39 U.vm ∧ U.heap = h0) (fun _ _ _ _ _ => True) (fun _ U o U' => ∃ v L, o = .returned v ∧ Qrm5 Z r0 p1 x1 x2 h0 n0 v U'.heap L ∧ FrameEnd U o U' L rm5_room.cells rm5_room.slots) := by
  refine MetFree.of_bodySF (plainFor_of_name pn_5) hisR ?_
  intro p e s m args below meth c s₁ Bd hml0 hP hK
  obtain ⟨rfl, hZ, hh⟩ := hP
  have hx := Bd.exec
  have hby := Bd.bytes
  have hml : c.maxLocals = 2 := hml0
  have hown : s.vm.findClass "com/example/blinkset/blinkset/TextPosition" = some m.cls := findClass_of_methodNamed Bd.named
  have hnm := (name_of_methodNamed Bd.named Bd.method).1
  have hlk : meth.locks = false := BodyLoose.notSynchronized Bd
  have X0 : Stand p l e rm5_room s m #[(.ref r0), (.int p1)] below meth c s₁ [] 0 0 := Stand.of_body Bd
  have e0 : s₁.heap = h0 := by rw [← hh, Bd.state]; rfl
  have N0 := Fr.nil n0
  show own_Fin p.tables e below s (Qrm5 Z r0 p1 x1 x2 h0 n0) rm5_room.cells rm5_room.slots (s₁.setTop (entryFrame m #[(.ref r0), (.int p1)] 2))
  rw [ef_5]
  show own_Fin _ _ _ _ _ _ _ (s₁.setTop (mkF m 0 #[.val (.ref r0), .val (.int p1)] []))
  have K0 := Keep.refl h0 [r0]
  refine own_go (fun _ k => XS.iloadN X0.here hx rfl (hb hby d5_0) rfl k) ?_
  show own_Fin _ _ _ _ _ _ _ (s₁.setTop (mkF m 1 #[.val (.ref r0), .val (.int p1)] [(.int p1)]))
  refine own_go (fun _ k => XS.bipush X0.here hx rfl (hb hby d5_1) k) ?_
  show own_Fin _ _ _ _ _ _ _ (s₁.setTop (mkF m 3 #[.val (.ref r0), .val (.int p1)] [(.int (10 : Int32)), (.int p1)]))
  have hc3 : p1 = (10 : Int32) := hp
  refine own_go (fun _ k => XS.icmpNo X0.here hx rfl (hb hby d5_3) rfl (teq hc3).2 k) ?_
  show own_Fin _ _ _ _ _ _ _ (s₁.setTop (mkF m 6 #[.val (.ref r0), .val (.int p1)] []))
  refine own_go (fun _ k => XS.aloadN X0.here hx rfl (hb hby d5_6) rfl rfl k) ?_
  show own_Fin _ _ _ _ _ _ _ (s₁.setTop (mkF m 7 #[.val (.ref r0), .val (.int p1)] [(.ref r0)]))
  obtain ⟨T1, X1, e1, st1⟩ := getF X0 hx hZ hown (host := "") (Or.inl (hw _ (List.mem_of_getElem? (i := 24) rfl))) Via.refl e0 F_afterCarriageReturn_r0_0 (g := (mkF m 7 #[.val (.ref r0), .val (.int p1)] [(.ref r0)])) rfl rfl (hb hby d5_7)
  refine own_go (fun tg k => st1 tg k) ?_
  show own_Fin _ _ _ _ _ _ _ (T1.setTop (mkF m 10 #[.val (.ref r0), .val (.int p1)] [(.int (0 : Int32))]))
  refine own_go (fun _ k => XS.ifNo X1.here hx rfl (hb hby d5_10) rfl ((if0 _ _).trans (teq (by decide)).2) k) ?_
  show own_Fin _ _ _ _ _ _ _ (T1.setTop (mkF m 13 #[.val (.ref r0), .val (.int p1)] []))
  refine own_go (fun _ k => XS.aloadN X1.here hx rfl (hb hby d5_13) rfl rfl k) ?_
  show own_Fin _ _ _ _ _ _ _ (T1.setTop (mkF m 14 #[.val (.ref r0), .val (.int p1)] [(.ref r0)]))
  refine own_go (fun _ k => XS.dup X1.here hx rfl (hb hby d5_14) rfl rfl k) ?_
  show own_Fin _ _ _ _ _ _ _ (T1.setTop (mkF m 15 #[.val (.ref r0), .val (.int p1)] [(.ref r0), (.ref r0)]))
  obtain ⟨T2, X2, e2, st2⟩ := getF X1 hx hZ hown (host := "") (Or.inl (hw _ (List.mem_of_getElem? (i := 15) rfl))) Via.refl e1 F_line_r0_0 (g := (mkF m 15 #[.val (.ref r0), .val (.int p1)] [(.ref r0), (.ref r0)])) rfl rfl (hb hby d5_15)
  refine own_go (fun tg k => st2 tg k) ?_
  show own_Fin _ _ _ _ _ _ _ (T2.setTop (mkF m 18 #[.val (.ref r0), .val (.int p1)] [(.int x1), (.ref r0)]))
  refine own_go (fun _ k => XS.iconst X2.here hx rfl (hb hby d5_18) k) ?_
  show own_Fin _ _ _ _ _ _ _ (T2.setTop (mkF m 19 #[.val (.ref r0), .val (.int p1)] [(.int (1 : Int32)), (.int x1), (.ref r0)]))
  refine own_go (fun _ k => XS.iadd X2.here hx rfl (hb hby d5_19) rfl k) ?_
  show own_Fin _ _ _ _ _ _ _ (T2.setTop (mkF m 20 #[.val (.ref r0), .val (.int p1)] [(.int (x1 + (1 : Int32))), (.ref r0)]))
  obtain ⟨T3, h3, X3, e3, W3, st3⟩ := putF X2 hx hZ hown (host := "") (Or.inl (hw _ (List.mem_of_getElem? (i := 15) rfl))) Via.refl e2 F_line_r0_0 E_r0_0 (Or.inl (hw _ (List.mem_of_getElem? (i := 16) rfl))) (hw _ (List.mem_of_getElem? (i := 7) rfl)) (ty := .int) (by decide) rfl rfl (g := (mkF m 20 #[.val (.ref r0), .val (.int p1)] [(.int (x1 + (1 : Int32))), (.ref r0)])) rfl rfl (hb hby d5_20)
  have E_r0_3 := E_r0_0.wr W3
  have F_column_r0_3 := F_column_r0_0.other W3 (Or.inr (slot_ne (Or.inl (hw _ (List.mem_of_getElem? (i := 18) rfl))) (Or.inl (hw _ (List.mem_of_getElem? (i := 16) rfl))) (by decide) (t := .int) (t' := .int) (by decide) (by decide)))
  have F_afterCarriageReturn_r0_3 := F_afterCarriageReturn_r0_0.other W3 (Or.inr (slot_ne (Or.inl (hw _ (List.mem_of_getElem? (i := 25) rfl))) (Or.inl (hw _ (List.mem_of_getElem? (i := 16) rfl))) (by decide) (t := .boolean) (t' := .int) (by decide) (by decide)))
  have F_afterHighSurrogate_r0_3 := F_afterHighSurrogate_r0_0.other W3 (Or.inr (slot_ne (Or.inl (hw _ (List.mem_of_getElem? (i := 27) rfl))) (Or.inl (hw _ (List.mem_of_getElem? (i := 16) rfl))) (by decide) (t := .boolean) (t' := .int) (by decide) (by decide)))
  have K3 := K0.wr W3 (Or.inl (List.mem_of_getElem? (i := 0) rfl))
  have N3 := Fr.snoc X3 N0 ge_r0
  have Z3 : n0 ≤ h3.size := Nat.le_trans Z0 (Keep.of_wr W3).1
  have F_line_r0_3 := F_line_r0_0.same W3
  refine own_go (fun tg k => st3 tg k) ?_
  show own_Fin _ _ _ _ _ _ _ (T3.setTop (mkF m 23 #[.val (.ref r0), .val (.int p1)] []))
  refine own_go (fun _ k => XS.aloadN X3.here hx rfl (hb hby d5_23) rfl rfl k) ?_
  show own_Fin _ _ _ _ _ _ _ (T3.setTop (mkF m 24 #[.val (.ref r0), .val (.int p1)] [(.ref r0)]))
  refine own_go (fun _ k => XS.iconst X3.here hx rfl (hb hby d5_24) k) ?_
  show own_Fin _ _ _ _ _ _ _ (T3.setTop (mkF m 25 #[.val (.ref r0), .val (.int p1)] [(.int (1 : Int32)), (.ref r0)]))
  obtain ⟨T4, h4, X4, e4, W4, st4⟩ := putF X3 hx hZ hown (host := "") (Or.inl (hw _ (List.mem_of_getElem? (i := 17) rfl))) Via.refl e3 F_column_r0_3 E_r0_3 (Or.inl (hw _ (List.mem_of_getElem? (i := 18) rfl))) (hw _ (List.mem_of_getElem? (i := 7) rfl)) (ty := .int) (by decide) rfl rfl (g := (mkF m 25 #[.val (.ref r0), .val (.int p1)] [(.int (1 : Int32)), (.ref r0)])) rfl rfl (hb hby d5_25)
  have E_r0_4 := E_r0_3.wr W4
  have F_line_r0_4 := F_line_r0_3.other W4 (Or.inr (slot_ne (Or.inl (hw _ (List.mem_of_getElem? (i := 16) rfl))) (Or.inl (hw _ (List.mem_of_getElem? (i := 18) rfl))) (by decide) (t := .int) (t' := .int) (by decide) (by decide)))
  have F_afterCarriageReturn_r0_4 := F_afterCarriageReturn_r0_3.other W4 (Or.inr (slot_ne (Or.inl (hw _ (List.mem_of_getElem? (i := 25) rfl))) (Or.inl (hw _ (List.mem_of_getElem? (i := 18) rfl))) (by decide) (t := .boolean) (t' := .int) (by decide) (by decide)))
  have F_afterHighSurrogate_r0_4 := F_afterHighSurrogate_r0_3.other W4 (Or.inr (slot_ne (Or.inl (hw _ (List.mem_of_getElem? (i := 27) rfl))) (Or.inl (hw _ (List.mem_of_getElem? (i := 18) rfl))) (by decide) (t := .boolean) (t' := .int) (by decide) (by decide)))
  have K4 := K3.wr W4 (Or.inl (List.mem_of_getElem? (i := 0) rfl))
  have N4 := Fr.snoc X4 N3 ge_r0
  have Z4 : n0 ≤ h4.size := Nat.le_trans Z3 (Keep.of_wr W4).1
  have F_column_r0_4 := F_column_r0_3.same W4
  refine own_go (fun tg k => st4 tg k) ?_
  show own_Fin _ _ _ _ _ _ _ (T4.setTop (mkF m 28 #[.val (.ref r0), .val (.int p1)] []))
  refine own_go (fun _ k => XS.goto X4.here hx rfl (pc0 := 28) (pc' := 79) rfl (hb hby d5_28) (by decide) (by decide) k) ?_
  show own_Fin _ _ _ _ _ _ _ (T4.setTop (mkF m 79 #[.val (.ref r0), .val (.int p1)] []))
  refine own_go (fun _ k => XS.aloadN X4.here hx rfl (hb hby d5_79) rfl rfl k) ?_
  show own_Fin _ _ _ _ _ _ _ (T4.setTop (mkF m 80 #[.val (.ref r0), .val (.int p1)] [(.ref r0)]))
  refine own_go (fun _ k => XS.iloadN X4.here hx rfl (hb hby d5_80) rfl k) ?_
  show own_Fin _ _ _ _ _ _ _ (T4.setTop (mkF m 81 #[.val (.ref r0), .val (.int p1)] [(.int p1), (.ref r0)]))
  refine own_go (fun _ k => XS.bipush X4.here hx rfl (hb hby d5_81) k) ?_
  show own_Fin _ _ _ _ _ _ _ (T4.setTop (mkF m 83 #[.val (.ref r0), .val (.int p1)] [(.int (13 : Int32)), (.int p1), (.ref r0)]))
  have hc83 : ¬ (p1 = (13 : Int32)) := (hp ▸ (by decide))
  refine own_go (fun _ k => XS.icmpYes X4.here hx rfl (pc0 := 83) (pc' := 90) rfl (hb hby d5_83) rfl (feq hc83).2 (by decide) (by decide) k) ?_
  show own_Fin _ _ _ _ _ _ _ (T4.setTop (mkF m 90 #[.val (.ref r0), .val (.int p1)] [(.ref r0)]))
  refine own_go (fun _ k => XS.iconst X4.here hx rfl (hb hby d5_90) k) ?_
  show own_Fin _ _ _ _ _ _ _ (T4.setTop (mkF m 91 #[.val (.ref r0), .val (.int p1)] [(.int (0 : Int32)), (.ref r0)]))
  obtain ⟨T5, h5, X5, e5, W5, st5⟩ := putFN X4 hx hZ hown (hw _ (List.mem_of_getElem? (i := 24) rfl)) Via.refl e4 F_afterCarriageReturn_r0_4 E_r0_4 (Or.inl (hw _ (List.mem_of_getElem? (i := 25) rfl))) (hw _ (List.mem_of_getElem? (i := 7) rfl)) (ty := .boolean) (v' := (.int (0 : Int32))) (by decide) rfl (by decide) (g := (mkF m 91 #[.val (.ref r0), .val (.int p1)] [(.int (0 : Int32)), (.ref r0)])) rfl rfl (hb hby d5_91)
  have E_r0_5 := E_r0_4.wr W5
  have F_line_r0_5 := F_line_r0_4.other W5 (Or.inr (slot_ne (Or.inl (hw _ (List.mem_of_getElem? (i := 16) rfl))) (Or.inl (hw _ (List.mem_of_getElem? (i := 25) rfl))) (by decide) (t := .int) (t' := .boolean) (by decide) (by decide)))
  have F_column_r0_5 := F_column_r0_4.other W5 (Or.inr (slot_ne (Or.inl (hw _ (List.mem_of_getElem? (i := 18) rfl))) (Or.inl (hw _ (List.mem_of_getElem? (i := 25) rfl))) (by decide) (t := .int) (t' := .boolean) (by decide) (by decide)))
  have F_afterHighSurrogate_r0_5 := F_afterHighSurrogate_r0_4.other W5 (Or.inr (slot_ne (Or.inl (hw _ (List.mem_of_getElem? (i := 27) rfl))) (Or.inl (hw _ (List.mem_of_getElem? (i := 25) rfl))) (by decide) (t := .boolean) (t' := .boolean) (by decide) (by decide)))
  have K5 := K4.wr W5 (Or.inl (List.mem_of_getElem? (i := 0) rfl))
  have N5 := Fr.snoc X5 N4 ge_r0
  have Z5 : n0 ≤ h5.size := Nat.le_trans Z4 (Keep.of_wr W5).1
  have F_afterCarriageReturn_r0_5 := F_afterCarriageReturn_r0_4.same W5
  refine own_go (fun tg k => st5 tg k) ?_
  show own_Fin _ _ _ _ _ _ _ (T5.setTop (mkF m 94 #[.val (.ref r0), .val (.int p1)] []))
  refine own_go (fun _ k => XS.aloadN X5.here hx rfl (hb hby d5_94) rfl rfl k) ?_
  show own_Fin _ _ _ _ _ _ _ (T5.setTop (mkF m 95 #[.val (.ref r0), .val (.int p1)] [(.ref r0)]))
  refine own_go (fun _ k => XS.iloadN X5.here hx rfl (hb hby d5_95) rfl k) ?_
  show own_Fin _ _ _ _ _ _ _ (T5.setTop (mkF m 96 #[.val (.ref r0), .val (.int p1)] [(.int p1), (.ref r0)]))
  obtain ⟨_, _, ⟨T6, L6, k6, n6⟩, -, X6, ⟨Lc6, hQ6, l6, y6, z6⟩, st6⟩ := Jvm.LawKit.callS X5 hx (y := (⟨"java/lang/Character", "isHighSurrogate", "(C)Z"⟩ : MethodName)) hown (mvT hZ (hw _ (List.mem_of_getElem? (i := 33) rfl))) (mvT hZ (hw _ (List.mem_of_getElem? (i := 34) rfl))) (mvT hZ (hw _ (List.mem_of_getElem? (i := 35) rfl))) (mvT hZ (hw _ (List.mem_of_getElem? (i := 36) rfl))) (by decide) (backOf (W := 1) (rm6 l Z a0 hw [] p1 h5 n0 Z5 (hp ▸ (by decide))) hZ (hw _ (List.mem_of_getElem? (i := 36) rfl)) (hw _ (List.mem_of_getElem? (i := 35) rfl)) (by decide) (by decide)) (g := (mkF m 96 #[.val (.ref r0), .val (.int p1)] [(.int p1), (.ref r0)])) rfl (by rw [hml]; rfl) (argsL := [(.int p1)]) (rest := [(.ref r0)]) (lenOf own_pd30 rfl) rfl (by show 2 * 0 + _ ≤ _; exact Nat.le_of_eq rfl) (hb hby d5_96) (fun _ _ => ⟨rfl, e5, (by decide : 0 + 0 ≤ _), (by decide : 0 + 0 ≤ _)⟩)
  dsimp only [Pt.U, Pt.locs, Pt.cells, Pt.slots] at X6 l6 y6 z6 st6 hQ6
  replace y6 : 0 = k6 := y6.symm
  replace z6 : 0 = n6 := z6.symm
  subst y6 z6
  obtain ⟨rfl, N6q, e6⟩ := hQ6
  have N6 : Fr n0 L6 := by rw [l6]; exact Fr.app N5 N6q
  refine own_go (fun tg k => st6 tg k) ?_
  show own_Fin _ _ _ _ _ _ _ (T6.setTop (mkF m 99 #[.val (.ref r0), .val (.int p1)] [(.int (0 : Int32)), (.ref r0)]))
  obtain ⟨T7, h7, X7, e7, W7, st7⟩ := putFN X6 hx hZ hown (hw _ (List.mem_of_getElem? (i := 26) rfl)) Via.refl e6 F_afterHighSurrogate_r0_5 E_r0_5 (Or.inl (hw _ (List.mem_of_getElem? (i := 27) rfl))) (hw _ (List.mem_of_getElem? (i := 7) rfl)) (ty := .boolean) (v' := (.int (0 : Int32))) (by decide) rfl (by decide) (g := (mkF m 99 #[.val (.ref r0), .val (.int p1)] [(.int (0 : Int32)), (.ref r0)])) rfl rfl (hb hby d5_99)
  have E_r0_7 := E_r0_5.wr W7
  have F_line_r0_7 := F_line_r0_5.other W7 (Or.inr (slot_ne (Or.inl (hw _ (List.mem_of_getElem? (i := 16) rfl))) (Or.inl (hw _ (List.mem_of_getElem? (i := 27) rfl))) (by decide) (t := .int) (t' := .boolean) (by decide) (by decide)))
  have F_column_r0_7 := F_column_r0_5.other W7 (Or.inr (slot_ne (Or.inl (hw _ (List.mem_of_getElem? (i := 18) rfl))) (Or.inl (hw _ (List.mem_of_getElem? (i := 27) rfl))) (by decide) (t := .int) (t' := .boolean) (by decide) (by decide)))
  have F_afterCarriageReturn_r0_7 := F_afterCarriageReturn_r0_5.other W7 (Or.inr (slot_ne (Or.inl (hw _ (List.mem_of_getElem? (i := 25) rfl))) (Or.inl (hw _ (List.mem_of_getElem? (i := 27) rfl))) (by decide) (t := .boolean) (t' := .boolean) (by decide) (by decide)))
  have K7 := K5.wr W7 (Or.inl (List.mem_of_getElem? (i := 0) rfl))
  have N7 := Fr.snoc X7 N6 ge_r0
  have Z7 : n0 ≤ h7.size := Nat.le_trans Z5 (Keep.of_wr W7).1
  have F_afterHighSurrogate_r0_7 := F_afterHighSurrogate_r0_5.same W7
  refine own_go (fun tg k => st7 tg k) ?_
  show own_Fin _ _ _ _ _ _ _ (T7.setTop (mkF m 102 #[.val (.ref r0), .val (.int p1)] []))
  refine own_retV X7 hx hlk Bd.returns (hb hby d5_102) (Nat.le_of_ble_eq_true rfl) (Nat.le_of_ble_eq_true rfl) ?_
  rw [e7]
  refine ⟨rfl, N7, K7, E_r0_7, ?_, ?_, ?_, ?_⟩
  · (exact F_line_r0_7)
  · (exact F_column_r0_7)
  · (exact F_afterCarriageReturn_r0_7)
  · (exact F_afterHighSurrogate_r0_7)
def own_line (n : Int32) : Int32 := if n < (1 : Int32) then (if n < (2 : Int32) then (1 : Int32) else ((1 : Int32) + (1 : Int32))) else (if n < (2 : Int32) then ((1 : Int32) + (1 : Int32)) else (((1 : Int32) + (1 : Int32)) + (1 : Int32)))
def own_col (k : Int32) : Int32 := if k = (0 : Int32) then (1 : Int32) else ((1 : Int32) + k)
theorem own_pd59 : parseMethodDescriptor "()V" = some ⟨[], none⟩ := by decide +kernel
theorem own_pd60 : parseMethodDescriptor "(I)V" = some ⟨[.int], none⟩ := by decide +kernel
theorem own_pd61 : parseMethodDescriptor "(C)V" = some ⟨[.char], none⟩ := by decide +kernel
theorem d1_0 : decode method_3_code 0 = .ok (.new 16, 3) := by decide +kernel
theorem d1_3 : decode method_3_code 3 = .ok (.dup, 1) := by decide +kernel
theorem d1_4 : decode method_3_code 4 = .ok (.invokespecial 21, 3) := by decide +kernel
theorem d1_7 : decode method_3_code 7 = .ok (.astore_n 2, 1) := by decide +kernel
theorem d1_8 : decode method_3_code 8 = .ok (.iload_n 0, 1) := by decide +kernel
theorem d1_9 : decode method_3_code 9 = .ok (.iconst 1, 1) := by decide +kernel
theorem d1_10 : decode method_3_code 10 = .ok (.if_icmp .lt 9, 3) := by decide +kernel
theorem d1_13 : decode method_3_code 13 = .ok (.aload_n 2, 1) := by decide +kernel
theorem d1_14 : decode method_3_code 14 = .ok (.bipush 10, 2) := by decide +kernel
theorem d1_16 : decode method_3_code 16 = .ok (.invokevirtual 22, 3) := by decide +kernel
theorem d1_19 : decode method_3_code 19 = .ok (.iload_n 0, 1) := by decide +kernel
theorem d1_20 : decode method_3_code 20 = .ok (.iconst 2, 1) := by decide +kernel
theorem d1_21 : decode method_3_code 21 = .ok (.if_icmp .lt 9, 3) := by decide +kernel
theorem d1_24 : decode method_3_code 24 = .ok (.aload_n 2, 1) := by decide +kernel
theorem d1_25 : decode method_3_code 25 = .ok (.bipush 10, 2) := by decide +kernel
theorem d1_27 : decode method_3_code 27 = .ok (.invokevirtual 22, 3) := by decide +kernel
theorem d1_30 : decode method_3_code 30 = .ok (.iload_n 1, 1) := by decide +kernel
theorem d1_31 : decode method_3_code 31 = .ok (.ifCond .eq 8, 3) := by decide +kernel
theorem d1_34 : decode method_3_code 34 = .ok (.aload_n 2, 1) := by decide +kernel
theorem d1_35 : decode method_3_code 35 = .ok (.iload_n 1, 1) := by decide +kernel
theorem d1_36 : decode method_3_code 36 = .ok (.invokevirtual 26, 3) := by decide +kernel
theorem d1_39 : decode method_3_code 39 = .ok (.aload_n 2, 1) := by decide +kernel
theorem d1_40 : decode method_3_code 40 = .ok (.areturn, 1) := by decide +kernel
theorem pn_1 : plainName "com/example/blinkset/blinkset/TextPositionIsBeforePinLaw" = true := by first | (simp [plainName, overriddenIn]; done) | decide +kernel
theorem ef_1 (m : MethodId) (p0 : Int32) (p1 : Int32) : entryFrame m #[(.int p0), (.int p1)] 3 = mkF m 0 #[.val (.int p0), .val (.int p1), .unset] [] := by first | (simp [entryFrame, mkF, argsToLocals, Value.category]; done) | rfl
def rm1_room : Room := { frames := 2, cells := 1, slots := 4, locals := 26 }
def Qrm1 (Z : State) (p0 : Int32) (p1 : Int32) (h0 : Heap) (n0 : Nat) (v : Option Value) (h : Heap) (L : List Loc) : Prop := ∃ rb : Addr, v = some (.ref rb) ∧ Fr n0 L ∧ Keep h0 h [] ∧ h0.size ≤ rb ∧ Exa Z h rb "com/example/blinkset/blinkset/TextPosition" ∧ Fld Z h rb "com/example/blinkset/blinkset/TextPosition" "line" "I" (.int (own_line p0)) ∧ Fld Z h rb "com/example/blinkset/blinkset/TextPosition" "column" "I" (.int (own_col p1)) ∧ Fld Z h rb "com/example/blinkset/blinkset/TextPosition" "afterCarriageReturn" "Z" (.int (0 : Int32)) ∧ Fld Z h rb "com/example/blinkset/blinkset/TextPosition" "afterHighSurrogate" "Z" (.int (0 : Int32))
set_option maxRecDepth 65536 in
set_option maxHeartbeats 40000000 in
theorem rm1 (l : Launch) (Z : State) (a0 : Array Value) (hw : ∀ d ∈ tables_1, d.before a0 Z = true) (ws : List Jvm.Cond) (p0 : Int32) (p1 : Int32) (h0 : Heap) (n0 : Nat) (Z0 : n0 ≤ h0.size) :
    MetFree l (⟨"com/example/blinkset/blinkset/TextPositionIsBeforePinLaw", "build", "(II)Lcom/example/blinkset/blinkset/TextPosition;"⟩ : MethodName) (head1 (Jvm.Cond.code (⟨"com/example/blinkset/blinkset/TextPositionIsBeforePinLaw", "build", "(II)Lcom/example/blinkset/blinkset/TextPosition;"⟩ : MethodName) method_3_code 3 (some (.object "com/example/blinkset/blinkset/TextPosition")) :: ws) rm1_room) (fun a U => a = #[(.int p0), (.int p1)] ∧ Z.Warmed39 U.vm ∧ U.heap = h0) (fun _ _ _ _ _ => True) (fun _ U o U' => ∃ v L, o = .returned v ∧ Qrm1 Z p0 p1 h0 n0 v U'.heap L ∧ FrameEnd U o U' L rm1_room.cells rm1_room.slots) := by
  refine MetFree.of_bodySF (plainFor_of_name pn_1) hisR ?_
  intro p e s m args below meth c s₁ Bd hml0 hP hK
  obtain ⟨rfl, hZ, hh⟩ := hP
  have hx := Bd.exec
  have hby := Bd.bytes
  have hml : c.maxLocals = 3 := hml0
  have hown : s.vm.findClass "com/example/blinkset/blinkset/TextPositionIsBeforePinLaw" = some m.cls := findClass_of_methodNamed Bd.named
  have hnm := (name_of_methodNamed Bd.named Bd.method).1
  have hlk : meth.locks = false := BodyLoose.notSynchronized Bd
  have X0 : Stand p l e rm1_room s m #[(.int p0), (.int p1)] below meth c s₁ [] 0 0 := Stand.of_body Bd
  have e0 : s₁.heap = h0 := by rw [← hh, Bd.state]; rfl
  have N0 := Fr.nil n0
  show own_Fin p.tables e below s (Qrm1 Z p0 p1 h0 n0) rm1_room.cells rm1_room.slots (s₁.setTop (entryFrame m #[(.int p0), (.int p1)] 3))
  rw [ef_1]
  show own_Fin _ _ _ _ _ _ _ (s₁.setTop (mkF m 0 #[.val (.int p0), .val (.int p1), .unset] []))
  have K0 := Keep.refl h0 []
  obtain ⟨T1, h1, X1, e1, E1, A1, D1, -, st1⟩ := newO X0 hx hZ hown (hw _ (List.mem_of_getElem? (i := 6) rfl)) (hw _ (List.mem_of_getElem? (i := 7) rfl)) (hw _ (List.mem_of_getElem? (i := 8) rfl)) e0 (g := (mkF m 0 #[.val (.int p0), .val (.int p1), .unset] [])) rfl (hb hby d1_0) (by decide) (by decide)
  obtain ⟨b1, g1⟩ : ∃ z, z = h0.size := ⟨_, rfl⟩
  rw [← g1] at A1 D1 st1
  have ge_b1 : n0 ≤ b1 := Nat.le_trans Z0 (Nat.le_of_eq g1.symm)
  have sz_b1 : h0.size ≤ b1 := Nat.le_trans K0.1 (Nat.le_of_eq g1.symm)
  have K1 := K0.ext E1
  have Z1 : n0 ≤ h1.size := Nat.le_trans Z0 E1.1
  have E_b1_1 : Exa Z h1 b1 "com/example/blinkset/blinkset/TextPosition" := A1
  have F_line_b1_1 : Fld Z h1 b1 "com/example/blinkset/blinkset/TextPosition" "line" "I" (.int (0 : Int32)) := D1 (Or.inl (hw _ (List.mem_of_getElem? (i := 16) rfl))) (ty := .int) (by decide)
  have F_column_b1_1 : Fld Z h1 b1 "com/example/blinkset/blinkset/TextPosition" "column" "I" (.int (0 : Int32)) := D1 (Or.inl (hw _ (List.mem_of_getElem? (i := 18) rfl))) (ty := .int) (by decide)
  have F_afterCarriageReturn_b1_1 : Fld Z h1 b1 "com/example/blinkset/blinkset/TextPosition" "afterCarriageReturn" "Z" (.int (0 : Int32)) := D1 (Or.inl (hw _ (List.mem_of_getElem? (i := 25) rfl))) (ty := .boolean) (by decide)
  have F_afterHighSurrogate_b1_1 : Fld Z h1 b1 "com/example/blinkset/blinkset/TextPosition" "afterHighSurrogate" "Z" (.int (0 : Int32)) := D1 (Or.inl (hw _ (List.mem_of_getElem? (i := 27) rfl))) (ty := .boolean) (by decide)
  refine own_go (fun tg k => st1 tg k) ?_
  show own_Fin _ _ _ _ _ _ _ (T1.setTop (mkF m 3 #[.val (.int p0), .val (.int p1), .unset] [(.ref b1)]))
  refine own_go (fun _ k => XS.dup X1.here hx rfl (hb hby d1_3) rfl rfl k) ?_
  show own_Fin _ _ _ _ _ _ _ (T1.setTop (mkF m 4 #[.val (.int p0), .val (.int p1), .unset] [(.ref b1), (.ref b1)]))
  obtain ⟨_, _, ⟨T2, L2, k2, n2⟩, -, X2, ⟨Lc2, hQ2, l2, y2, z2⟩, st2⟩ := X1.specialBack hx (y := (⟨"com/example/blinkset/blinkset/TextPosition", "<init>", "()V"⟩ : MethodName)) rfl hown (mvT hZ (hw _ (List.mem_of_getElem? (i := 9) rfl))) (mvT hZ (hw _ (List.mem_of_getElem? (i := 10) rfl))) (mvT hZ (hw _ (List.mem_of_getElem? (i := 11) rfl))) (by decide) (backOf (W := 1) (rm2 l Z a0 hw [] b1 h1 n0 Z1 E_b1_1 F_line_b1_1 F_column_b1_1 F_afterCarriageReturn_b1_1 F_afterHighSurrogate_b1_1 ge_b1) hZ (hw _ (List.mem_of_getElem? (i := 11) rfl)) (hw _ (List.mem_of_getElem? (i := 8) rfl)) (by decide) (by decide)) (g := (mkF m 4 #[.val (.int p0), .val (.int p1), .unset] [(.ref b1), (.ref b1)])) rfl (by rw [hml]; rfl) (Steps.refl _) (a := b1) (argsL := []) (rest := [(.ref b1)]) (lenOf own_pd59 rfl) rfl (by show 2 * 0 + _ ≤ _; exact Nat.le_of_eq rfl) (hb hby d1_4) (fun _ _ => ⟨rfl, e1, (by decide : 1 + 0 ≤ _), (by decide : 4 + 0 ≤ _)⟩)
  dsimp only [Pt.U, Pt.locs, Pt.cells, Pt.slots] at X2 l2 y2 z2 st2 hQ2
  replace y2 : 1 = k2 := y2.symm
  replace z2 : 4 = n2 := z2.symm
  subst y2 z2
  obtain ⟨rfl, N2q, Kq2, E_b1_2, F_line_b1_2, F_column_b1_2, F_afterCarriageReturn_b1_2, F_afterHighSurrogate_b1_2⟩ := hQ2
  have N2 : Fr n0 L2 := by rw [l2]; exact Fr.app N0 N2q
  have K2 := Keep.trans K1 Kq2 (allS (Or.inr sz_b1) all0)
  have Z2 : n0 ≤ T2.heap.size := Nat.le_trans Z1 Kq2.1
  refine own_go (fun tg k => st2.trans k) ?_
  show own_Fin _ _ _ _ _ _ _ (T2.setTop (mkF m 7 #[.val (.int p0), .val (.int p1), .unset] [(.ref b1)]))
  refine own_go (fun _ k => XS.astoreN X2.here hx rfl (hb hby d1_7) rfl rfl (l' := #[.val (.int p0), .val (.int p1), .val (.ref b1)]) rfl k) ?_
  show own_Fin _ _ _ _ _ _ _ (T2.setTop (mkF m 8 #[.val (.int p0), .val (.int p1), .val (.ref b1)] []))
  refine own_go (fun _ k => XS.iloadN X2.here hx rfl (hb hby d1_8) rfl k) ?_
  show own_Fin _ _ _ _ _ _ _ (T2.setTop (mkF m 9 #[.val (.int p0), .val (.int p1), .val (.ref b1)] [(.int p0)]))
  refine own_go (fun _ k => XS.iconst X2.here hx rfl (hb hby d1_9) k) ?_
  show own_Fin _ _ _ _ _ _ _ (T2.setTop (mkF m 10 #[.val (.int p0), .val (.int p1), .val (.ref b1)] [(.int (1 : Int32)), (.int p0)]))
  by_cases hc3 : p0 < (1 : Int32)
  · refine own_go (fun _ k => XS.icmpYes X2.here hx rfl (pc0 := 10) (pc' := 19) rfl (hb hby d1_10) rfl (tlt hc3).1 (by decide) (by decide) k) ?_
    show own_Fin _ _ _ _ _ _ _ (T2.setTop (mkF m 19 #[.val (.int p0), .val (.int p1), .val (.ref b1)] []))
    refine own_go (fun _ k => XS.iloadN X2.here hx rfl (hb hby d1_19) rfl k) ?_
    show own_Fin _ _ _ _ _ _ _ (T2.setTop (mkF m 20 #[.val (.int p0), .val (.int p1), .val (.ref b1)] [(.int p0)]))
    refine own_go (fun _ k => XS.iconst X2.here hx rfl (hb hby d1_20) k) ?_
    show own_Fin _ _ _ _ _ _ _ (T2.setTop (mkF m 21 #[.val (.int p0), .val (.int p1), .val (.ref b1)] [(.int (2 : Int32)), (.int p0)]))
    by_cases hc4 : p0 < (2 : Int32)
    · refine own_go (fun _ k => XS.icmpYes X2.here hx rfl (pc0 := 21) (pc' := 30) rfl (hb hby d1_21) rfl (tlt hc4).1 (by decide) (by decide) k) ?_
      show own_Fin _ _ _ _ _ _ _ (T2.setTop (mkF m 30 #[.val (.int p0), .val (.int p1), .val (.ref b1)] []))
      refine own_go (fun _ k => XS.iloadN X2.here hx rfl (hb hby d1_30) rfl k) ?_
      show own_Fin _ _ _ _ _ _ _ (T2.setTop (mkF m 31 #[.val (.int p0), .val (.int p1), .val (.ref b1)] [(.int p1)]))
      by_cases hc5 : p1 = (0 : Int32)
      · refine own_go (fun _ k => XS.ifYes X2.here hx rfl (pc0 := 31) (pc' := 39) rfl (hb hby d1_31) rfl ((if0 _ _).trans (teq hc5).1) (by decide) (by decide) k) ?_
        show own_Fin _ _ _ _ _ _ _ (T2.setTop (mkF m 39 #[.val (.int p0), .val (.int p1), .val (.ref b1)] []))
        refine own_go (fun _ k => XS.aloadN X2.here hx rfl (hb hby d1_39) rfl rfl k) ?_
        show own_Fin _ _ _ _ _ _ _ (T2.setTop (mkF m 40 #[.val (.int p0), .val (.int p1), .val (.ref b1)] [(.ref b1)]))
        refine own_ret X2 hx hlk Bd.returns rfl (Or.inr (Or.inr (Or.inr (Or.inr ⟨rfl, rfl, rfl⟩)))) (hb hby d1_40) (Nat.le_of_ble_eq_true rfl) (Nat.le_of_ble_eq_true rfl) ?_
        refine ⟨b1, ?_, N2, K2, sz_b1, E_b1_2, ?_, ?_, ?_, ?_⟩
        · first | (simp only [if_pos hc3, if_pos hc4, if_pos hc5]; done) | (simp only [if_pos hc3, if_pos hc4, if_pos hc5]; rfl) | rfl
        · first | (exact F_line_b1_2) | (simp only [own_line, own_col, if_pos hc3, if_pos hc4, if_pos hc5]; exact F_line_b1_2)
        · first | (exact F_column_b1_2) | (simp only [own_line, own_col, if_pos hc3, if_pos hc4, if_pos hc5]; exact F_column_b1_2)
        · first | (exact F_afterCarriageReturn_b1_2) | (simp only [own_line, own_col, if_pos hc3, if_pos hc4, if_pos hc5]; exact F_afterCarriageReturn_b1_2)
        · first | (exact F_afterHighSurrogate_b1_2) | (simp only [own_line, own_col, if_pos hc3, if_pos hc4, if_pos hc5]; exact F_afterHighSurrogate_b1_2)
      · refine own_go (fun _ k => XS.ifNo X2.here hx rfl (hb hby d1_31) rfl ((if0 _ _).trans (feq hc5).1) k) ?_
        show own_Fin _ _ _ _ _ _ _ (T2.setTop (mkF m 34 #[.val (.int p0), .val (.int p1), .val (.ref b1)] []))
        refine own_go (fun _ k => XS.aloadN X2.here hx rfl (hb hby d1_34) rfl rfl k) ?_
        show own_Fin _ _ _ _ _ _ _ (T2.setTop (mkF m 35 #[.val (.int p0), .val (.int p1), .val (.ref b1)] [(.ref b1)]))
        refine own_go (fun _ k => XS.iloadN X2.here hx rfl (hb hby d1_35) rfl k) ?_
        show own_Fin _ _ _ _ _ _ _ (T2.setTop (mkF m 36 #[.val (.int p0), .val (.int p1), .val (.ref b1)] [(.int p1), (.ref b1)]))
        obtain ⟨cq6, kq6, q6a, q6b, q6c⟩ := isOf hZ rfl E_b1_2
        obtain ⟨_, _, ⟨T6, L6, k6, n6⟩, -, X6, ⟨Lc6, hQ6, l6, y6, z6⟩, st6⟩ := X2.virtualBack hx (y := (⟨"com/example/blinkset/blinkset/TextPosition", "advanceColumns", "(I)V"⟩ : MethodName)) (z := (⟨"com/example/blinkset/blinkset/TextPosition", "advanceColumns", "(I)V"⟩ : MethodName)) hown (mvT hZ (hw _ (List.mem_of_getElem? (i := 19) rfl))) (mvT hZ (hw _ (List.mem_of_getElem? (i := 20) rfl))) (notFace_of_selects (args := #[]) (mvT hZ (hw _ (List.mem_of_getElem? (i := 22) rfl)))) (mvT hZ (hw _ (List.mem_of_getElem? (i := 22) rfl))) (mvT hZ (hw _ (List.mem_of_getElem? (i := 21) rfl))) (by decide) (backOf (W := 0) (rm4 l Z a0 hw [] b1 p1 (1 : Int32) (1 : Int32) T2.heap n0 Z2 E_b1_2 F_line_b1_2 F_column_b1_2 F_afterCarriageReturn_b1_2 F_afterHighSurrogate_b1_2 ge_b1) hZ (hw _ (List.mem_of_getElem? (i := 23) rfl)) (hw _ (List.mem_of_getElem? (i := 8) rfl)) (by decide) (by decide)) q6a q6c (g := (mkF m 36 #[.val (.int p0), .val (.int p1), .val (.ref b1)] [(.int p1), (.ref b1)])) rfl (by rw [hml]; rfl) (Steps.refl _) (argsL := [(.int p1)]) (rest := []) (lenOf own_pd60 rfl) rfl (by show 2 * 0 + _ ≤ _; exact Nat.le_of_eq rfl) (hb hby d1_36) (fun _ _ => ⟨rfl, rfl, (by decide : 1 + 0 ≤ _), (by decide : 4 + 0 ≤ _)⟩)
        dsimp only [Pt.U, Pt.locs, Pt.cells, Pt.slots] at X6 l6 y6 z6 st6 hQ6
        replace y6 : 1 = k6 := y6.symm
        replace z6 : 4 = n6 := z6.symm
        subst y6 z6
        obtain ⟨rfl, N6q, Kq6, E_b1_6, F_line_b1_6, F_column_b1_6, F_afterCarriageReturn_b1_6, F_afterHighSurrogate_b1_6⟩ := hQ6
        have N6 : Fr n0 L6 := by rw [l6]; exact Fr.app N2 N6q
        have K6 := Keep.trans K2 Kq6 (allS (Or.inr sz_b1) all0)
        have Z6 : n0 ≤ T6.heap.size := Nat.le_trans Z2 Kq6.1
        refine own_go (fun tg k => st6.trans k) ?_
        show own_Fin _ _ _ _ _ _ _ (T6.setTop (mkF m 39 #[.val (.int p0), .val (.int p1), .val (.ref b1)] []))
        refine own_go (fun _ k => XS.aloadN X6.here hx rfl (hb hby d1_39) rfl rfl k) ?_
        show own_Fin _ _ _ _ _ _ _ (T6.setTop (mkF m 40 #[.val (.int p0), .val (.int p1), .val (.ref b1)] [(.ref b1)]))
        refine own_ret X6 hx hlk Bd.returns rfl (Or.inr (Or.inr (Or.inr (Or.inr ⟨rfl, rfl, rfl⟩)))) (hb hby d1_40) (Nat.le_of_ble_eq_true rfl) (Nat.le_of_ble_eq_true rfl) ?_
        refine ⟨b1, ?_, N6, K6, sz_b1, E_b1_6, ?_, ?_, ?_, ?_⟩
        · first | (simp only [if_pos hc3, if_pos hc4, if_neg hc5]; done) | (simp only [if_pos hc3, if_pos hc4, if_neg hc5]; rfl) | rfl
        · first | (exact F_line_b1_6) | (simp only [own_line, own_col, if_pos hc3, if_pos hc4, if_neg hc5]; exact F_line_b1_6)
        · first | (exact F_column_b1_6) | (simp only [own_line, own_col, if_pos hc3, if_pos hc4, if_neg hc5]; exact F_column_b1_6)
        · first | (exact F_afterCarriageReturn_b1_6) | (simp only [own_line, own_col, if_pos hc3, if_pos hc4, if_neg hc5]; exact F_afterCarriageReturn_b1_6)
        · first | (exact F_afterHighSurrogate_b1_6) | (simp only [own_line, own_col, if_pos hc3, if_pos hc4, if_neg hc5]; exact F_afterHighSurrogate_b1_6)
    · refine own_go (fun _ k => XS.icmpNo X2.here hx rfl (hb hby d1_21) rfl (flt hc4).1 k) ?_
      show own_Fin _ _ _ _ _ _ _ (T2.setTop (mkF m 24 #[.val (.int p0), .val (.int p1), .val (.ref b1)] []))
      refine own_go (fun _ k => XS.aloadN X2.here hx rfl (hb hby d1_24) rfl rfl k) ?_
      show own_Fin _ _ _ _ _ _ _ (T2.setTop (mkF m 25 #[.val (.int p0), .val (.int p1), .val (.ref b1)] [(.ref b1)]))
      refine own_go (fun _ k => XS.bipush X2.here hx rfl (hb hby d1_25) k) ?_
      show own_Fin _ _ _ _ _ _ _ (T2.setTop (mkF m 27 #[.val (.int p0), .val (.int p1), .val (.ref b1)] [(.int (10 : Int32)), (.ref b1)]))
      obtain ⟨cq7, kq7, q7a, q7b, q7c⟩ := isOf hZ rfl E_b1_2
      obtain ⟨_, _, ⟨T7, L7, k7, n7⟩, -, X7, ⟨Lc7, hQ7, l7, y7, z7⟩, st7⟩ := X2.virtualBack hx (y := (⟨"com/example/blinkset/blinkset/TextPosition", "advance", "(C)V"⟩ : MethodName)) (z := (⟨"com/example/blinkset/blinkset/TextPosition", "advance", "(C)V"⟩ : MethodName)) hown (mvT hZ (hw _ (List.mem_of_getElem? (i := 28) rfl))) (mvT hZ (hw _ (List.mem_of_getElem? (i := 29) rfl))) (notFace_of_selects (args := #[]) (mvT hZ (hw _ (List.mem_of_getElem? (i := 31) rfl)))) (mvT hZ (hw _ (List.mem_of_getElem? (i := 31) rfl))) (mvT hZ (hw _ (List.mem_of_getElem? (i := 30) rfl))) (by decide) (backOf (W := 0) (rm5 l Z a0 hw [] b1 (10 : Int32) (1 : Int32) (1 : Int32) T2.heap n0 Z2 E_b1_2 F_line_b1_2 F_column_b1_2 F_afterCarriageReturn_b1_2 F_afterHighSurrogate_b1_2 ge_b1 rfl) hZ (hw _ (List.mem_of_getElem? (i := 32) rfl)) (hw _ (List.mem_of_getElem? (i := 8) rfl)) (by decide) (by decide)) q7a q7c (g := (mkF m 27 #[.val (.int p0), .val (.int p1), .val (.ref b1)] [(.int (10 : Int32)), (.ref b1)])) rfl (by rw [hml]; rfl) (Steps.refl _) (argsL := [(.int (10 : Int32))]) (rest := []) (lenOf own_pd61 rfl) rfl (by show 2 * 0 + _ ≤ _; exact Nat.le_of_eq rfl) (hb hby d1_27) (fun _ _ => ⟨rfl, rfl, (by decide : 1 + 0 ≤ _), (by decide : 4 + 0 ≤ _)⟩)
      dsimp only [Pt.U, Pt.locs, Pt.cells, Pt.slots] at X7 l7 y7 z7 st7 hQ7
      replace y7 : 1 = k7 := y7.symm
      replace z7 : 4 = n7 := z7.symm
      subst y7 z7
      obtain ⟨rfl, N7q, Kq7, E_b1_7, F_line_b1_7, F_column_b1_7, F_afterCarriageReturn_b1_7, F_afterHighSurrogate_b1_7⟩ := hQ7
      have N7 : Fr n0 L7 := by rw [l7]; exact Fr.app N2 N7q
      have K7 := Keep.trans K2 Kq7 (allS (Or.inr sz_b1) all0)
      have Z7 : n0 ≤ T7.heap.size := Nat.le_trans Z2 Kq7.1
      refine own_go (fun tg k => st7.trans k) ?_
      show own_Fin _ _ _ _ _ _ _ (T7.setTop (mkF m 30 #[.val (.int p0), .val (.int p1), .val (.ref b1)] []))
      refine own_go (fun _ k => XS.iloadN X7.here hx rfl (hb hby d1_30) rfl k) ?_
      show own_Fin _ _ _ _ _ _ _ (T7.setTop (mkF m 31 #[.val (.int p0), .val (.int p1), .val (.ref b1)] [(.int p1)]))
      by_cases hc8 : p1 = (0 : Int32)
      · refine own_go (fun _ k => XS.ifYes X7.here hx rfl (pc0 := 31) (pc' := 39) rfl (hb hby d1_31) rfl ((if0 _ _).trans (teq hc8).1) (by decide) (by decide) k) ?_
        show own_Fin _ _ _ _ _ _ _ (T7.setTop (mkF m 39 #[.val (.int p0), .val (.int p1), .val (.ref b1)] []))
        refine own_go (fun _ k => XS.aloadN X7.here hx rfl (hb hby d1_39) rfl rfl k) ?_
        show own_Fin _ _ _ _ _ _ _ (T7.setTop (mkF m 40 #[.val (.int p0), .val (.int p1), .val (.ref b1)] [(.ref b1)]))
        refine own_ret X7 hx hlk Bd.returns rfl (Or.inr (Or.inr (Or.inr (Or.inr ⟨rfl, rfl, rfl⟩)))) (hb hby d1_40) (Nat.le_of_ble_eq_true rfl) (Nat.le_of_ble_eq_true rfl) ?_
        refine ⟨b1, ?_, N7, K7, sz_b1, E_b1_7, ?_, ?_, ?_, ?_⟩
        · first | (simp only [if_pos hc3, if_neg hc4, if_pos hc8]; done) | (simp only [if_pos hc3, if_neg hc4, if_pos hc8]; rfl) | rfl
        · first | (exact F_line_b1_7) | (simp only [own_line, own_col, if_pos hc3, if_neg hc4, if_pos hc8]; exact F_line_b1_7)
        · first | (exact F_column_b1_7) | (simp only [own_line, own_col, if_pos hc3, if_neg hc4, if_pos hc8]; exact F_column_b1_7)
        · first | (exact F_afterCarriageReturn_b1_7) | (simp only [own_line, own_col, if_pos hc3, if_neg hc4, if_pos hc8]; exact F_afterCarriageReturn_b1_7)
        · first | (exact F_afterHighSurrogate_b1_7) | (simp only [own_line, own_col, if_pos hc3, if_neg hc4, if_pos hc8]; exact F_afterHighSurrogate_b1_7)
      · refine own_go (fun _ k => XS.ifNo X7.here hx rfl (hb hby d1_31) rfl ((if0 _ _).trans (feq hc8).1) k) ?_
        show own_Fin _ _ _ _ _ _ _ (T7.setTop (mkF m 34 #[.val (.int p0), .val (.int p1), .val (.ref b1)] []))
        refine own_go (fun _ k => XS.aloadN X7.here hx rfl (hb hby d1_34) rfl rfl k) ?_
        show own_Fin _ _ _ _ _ _ _ (T7.setTop (mkF m 35 #[.val (.int p0), .val (.int p1), .val (.ref b1)] [(.ref b1)]))
        refine own_go (fun _ k => XS.iloadN X7.here hx rfl (hb hby d1_35) rfl k) ?_
        show own_Fin _ _ _ _ _ _ _ (T7.setTop (mkF m 36 #[.val (.int p0), .val (.int p1), .val (.ref b1)] [(.int p1), (.ref b1)]))
        obtain ⟨cq9, kq9, q9a, q9b, q9c⟩ := isOf hZ rfl E_b1_7
        obtain ⟨_, _, ⟨T9, L9, k9, n9⟩, -, X9, ⟨Lc9, hQ9, l9, y9, z9⟩, st9⟩ := X7.virtualBack hx (y := (⟨"com/example/blinkset/blinkset/TextPosition", "advanceColumns", "(I)V"⟩ : MethodName)) (z := (⟨"com/example/blinkset/blinkset/TextPosition", "advanceColumns", "(I)V"⟩ : MethodName)) hown (mvT hZ (hw _ (List.mem_of_getElem? (i := 19) rfl))) (mvT hZ (hw _ (List.mem_of_getElem? (i := 20) rfl))) (notFace_of_selects (args := #[]) (mvT hZ (hw _ (List.mem_of_getElem? (i := 22) rfl)))) (mvT hZ (hw _ (List.mem_of_getElem? (i := 22) rfl))) (mvT hZ (hw _ (List.mem_of_getElem? (i := 21) rfl))) (by decide) (backOf (W := 0) (rm4 l Z a0 hw [] b1 p1 ((1 : Int32) + (1 : Int32)) (1 : Int32) T7.heap n0 Z7 E_b1_7 F_line_b1_7 F_column_b1_7 F_afterCarriageReturn_b1_7 F_afterHighSurrogate_b1_7 ge_b1) hZ (hw _ (List.mem_of_getElem? (i := 23) rfl)) (hw _ (List.mem_of_getElem? (i := 8) rfl)) (by decide) (by decide)) q9a q9c (g := (mkF m 36 #[.val (.int p0), .val (.int p1), .val (.ref b1)] [(.int p1), (.ref b1)])) rfl (by rw [hml]; rfl) (Steps.refl _) (argsL := [(.int p1)]) (rest := []) (lenOf own_pd60 rfl) rfl (by show 2 * 0 + _ ≤ _; exact Nat.le_of_eq rfl) (hb hby d1_36) (fun _ _ => ⟨rfl, rfl, (by decide : 1 + 0 ≤ _), (by decide : 4 + 0 ≤ _)⟩)
        dsimp only [Pt.U, Pt.locs, Pt.cells, Pt.slots] at X9 l9 y9 z9 st9 hQ9
        replace y9 : 1 = k9 := y9.symm
        replace z9 : 4 = n9 := z9.symm
        subst y9 z9
        obtain ⟨rfl, N9q, Kq9, E_b1_9, F_line_b1_9, F_column_b1_9, F_afterCarriageReturn_b1_9, F_afterHighSurrogate_b1_9⟩ := hQ9
        have N9 : Fr n0 L9 := by rw [l9]; exact Fr.app N7 N9q
        have K9 := Keep.trans K7 Kq9 (allS (Or.inr sz_b1) all0)
        have Z9 : n0 ≤ T9.heap.size := Nat.le_trans Z7 Kq9.1
        refine own_go (fun tg k => st9.trans k) ?_
        show own_Fin _ _ _ _ _ _ _ (T9.setTop (mkF m 39 #[.val (.int p0), .val (.int p1), .val (.ref b1)] []))
        refine own_go (fun _ k => XS.aloadN X9.here hx rfl (hb hby d1_39) rfl rfl k) ?_
        show own_Fin _ _ _ _ _ _ _ (T9.setTop (mkF m 40 #[.val (.int p0), .val (.int p1), .val (.ref b1)] [(.ref b1)]))
        refine own_ret X9 hx hlk Bd.returns rfl (Or.inr (Or.inr (Or.inr (Or.inr ⟨rfl, rfl, rfl⟩)))) (hb hby d1_40) (Nat.le_of_ble_eq_true rfl) (Nat.le_of_ble_eq_true rfl) ?_
        refine ⟨b1, ?_, N9, K9, sz_b1, E_b1_9, ?_, ?_, ?_, ?_⟩
        · first | (simp only [if_pos hc3, if_neg hc4, if_neg hc8]; done) | (simp only [if_pos hc3, if_neg hc4, if_neg hc8]; rfl) | rfl
        · first | (exact F_line_b1_9) | (simp only [own_line, own_col, if_pos hc3, if_neg hc4, if_neg hc8]; exact F_line_b1_9)
        · first | (exact F_column_b1_9) | (simp only [own_line, own_col, if_pos hc3, if_neg hc4, if_neg hc8]; exact F_column_b1_9)
        · first | (exact F_afterCarriageReturn_b1_9) | (simp only [own_line, own_col, if_pos hc3, if_neg hc4, if_neg hc8]; exact F_afterCarriageReturn_b1_9)
        · first | (exact F_afterHighSurrogate_b1_9) | (simp only [own_line, own_col, if_pos hc3, if_neg hc4, if_neg hc8]; exact F_afterHighSurrogate_b1_9)
  · refine own_go (fun _ k => XS.icmpNo X2.here hx rfl (hb hby d1_10) rfl (flt hc3).1 k) ?_
    show own_Fin _ _ _ _ _ _ _ (T2.setTop (mkF m 13 #[.val (.int p0), .val (.int p1), .val (.ref b1)] []))
    refine own_go (fun _ k => XS.aloadN X2.here hx rfl (hb hby d1_13) rfl rfl k) ?_
    show own_Fin _ _ _ _ _ _ _ (T2.setTop (mkF m 14 #[.val (.int p0), .val (.int p1), .val (.ref b1)] [(.ref b1)]))
    refine own_go (fun _ k => XS.bipush X2.here hx rfl (hb hby d1_14) k) ?_
    show own_Fin _ _ _ _ _ _ _ (T2.setTop (mkF m 16 #[.val (.int p0), .val (.int p1), .val (.ref b1)] [(.int (10 : Int32)), (.ref b1)]))
    obtain ⟨cq10, kq10, q10a, q10b, q10c⟩ := isOf hZ rfl E_b1_2
    obtain ⟨_, _, ⟨T10, L10, k10, n10⟩, -, X10, ⟨Lc10, hQ10, l10, y10, z10⟩, st10⟩ := X2.virtualBack hx (y := (⟨"com/example/blinkset/blinkset/TextPosition", "advance", "(C)V"⟩ : MethodName)) (z := (⟨"com/example/blinkset/blinkset/TextPosition", "advance", "(C)V"⟩ : MethodName)) hown (mvT hZ (hw _ (List.mem_of_getElem? (i := 28) rfl))) (mvT hZ (hw _ (List.mem_of_getElem? (i := 29) rfl))) (notFace_of_selects (args := #[]) (mvT hZ (hw _ (List.mem_of_getElem? (i := 31) rfl)))) (mvT hZ (hw _ (List.mem_of_getElem? (i := 31) rfl))) (mvT hZ (hw _ (List.mem_of_getElem? (i := 30) rfl))) (by decide) (backOf (W := 0) (rm5 l Z a0 hw [] b1 (10 : Int32) (1 : Int32) (1 : Int32) T2.heap n0 Z2 E_b1_2 F_line_b1_2 F_column_b1_2 F_afterCarriageReturn_b1_2 F_afterHighSurrogate_b1_2 ge_b1 rfl) hZ (hw _ (List.mem_of_getElem? (i := 32) rfl)) (hw _ (List.mem_of_getElem? (i := 8) rfl)) (by decide) (by decide)) q10a q10c (g := (mkF m 16 #[.val (.int p0), .val (.int p1), .val (.ref b1)] [(.int (10 : Int32)), (.ref b1)])) rfl (by rw [hml]; rfl) (Steps.refl _) (argsL := [(.int (10 : Int32))]) (rest := []) (lenOf own_pd61 rfl) rfl (by show 2 * 0 + _ ≤ _; exact Nat.le_of_eq rfl) (hb hby d1_16) (fun _ _ => ⟨rfl, rfl, (by decide : 1 + 0 ≤ _), (by decide : 4 + 0 ≤ _)⟩)
    dsimp only [Pt.U, Pt.locs, Pt.cells, Pt.slots] at X10 l10 y10 z10 st10 hQ10
    replace y10 : 1 = k10 := y10.symm
    replace z10 : 4 = n10 := z10.symm
    subst y10 z10
    obtain ⟨rfl, N10q, Kq10, E_b1_10, F_line_b1_10, F_column_b1_10, F_afterCarriageReturn_b1_10, F_afterHighSurrogate_b1_10⟩ := hQ10
    have N10 : Fr n0 L10 := by rw [l10]; exact Fr.app N2 N10q
    have K10 := Keep.trans K2 Kq10 (allS (Or.inr sz_b1) all0)
    have Z10 : n0 ≤ T10.heap.size := Nat.le_trans Z2 Kq10.1
    refine own_go (fun tg k => st10.trans k) ?_
    show own_Fin _ _ _ _ _ _ _ (T10.setTop (mkF m 19 #[.val (.int p0), .val (.int p1), .val (.ref b1)] []))
    refine own_go (fun _ k => XS.iloadN X10.here hx rfl (hb hby d1_19) rfl k) ?_
    show own_Fin _ _ _ _ _ _ _ (T10.setTop (mkF m 20 #[.val (.int p0), .val (.int p1), .val (.ref b1)] [(.int p0)]))
    refine own_go (fun _ k => XS.iconst X10.here hx rfl (hb hby d1_20) k) ?_
    show own_Fin _ _ _ _ _ _ _ (T10.setTop (mkF m 21 #[.val (.int p0), .val (.int p1), .val (.ref b1)] [(.int (2 : Int32)), (.int p0)]))
    by_cases hc11 : p0 < (2 : Int32)
    · refine own_go (fun _ k => XS.icmpYes X10.here hx rfl (pc0 := 21) (pc' := 30) rfl (hb hby d1_21) rfl (tlt hc11).1 (by decide) (by decide) k) ?_
      show own_Fin _ _ _ _ _ _ _ (T10.setTop (mkF m 30 #[.val (.int p0), .val (.int p1), .val (.ref b1)] []))
      refine own_go (fun _ k => XS.iloadN X10.here hx rfl (hb hby d1_30) rfl k) ?_
      show own_Fin _ _ _ _ _ _ _ (T10.setTop (mkF m 31 #[.val (.int p0), .val (.int p1), .val (.ref b1)] [(.int p1)]))
      by_cases hc12 : p1 = (0 : Int32)
      · refine own_go (fun _ k => XS.ifYes X10.here hx rfl (pc0 := 31) (pc' := 39) rfl (hb hby d1_31) rfl ((if0 _ _).trans (teq hc12).1) (by decide) (by decide) k) ?_
        show own_Fin _ _ _ _ _ _ _ (T10.setTop (mkF m 39 #[.val (.int p0), .val (.int p1), .val (.ref b1)] []))
        refine own_go (fun _ k => XS.aloadN X10.here hx rfl (hb hby d1_39) rfl rfl k) ?_
        show own_Fin _ _ _ _ _ _ _ (T10.setTop (mkF m 40 #[.val (.int p0), .val (.int p1), .val (.ref b1)] [(.ref b1)]))
        refine own_ret X10 hx hlk Bd.returns rfl (Or.inr (Or.inr (Or.inr (Or.inr ⟨rfl, rfl, rfl⟩)))) (hb hby d1_40) (Nat.le_of_ble_eq_true rfl) (Nat.le_of_ble_eq_true rfl) ?_
        refine ⟨b1, ?_, N10, K10, sz_b1, E_b1_10, ?_, ?_, ?_, ?_⟩
        · first | (simp only [if_neg hc3, if_pos hc11, if_pos hc12]; done) | (simp only [if_neg hc3, if_pos hc11, if_pos hc12]; rfl) | rfl
        · first | (exact F_line_b1_10) | (simp only [own_line, own_col, if_neg hc3, if_pos hc11, if_pos hc12]; exact F_line_b1_10)
        · first | (exact F_column_b1_10) | (simp only [own_line, own_col, if_neg hc3, if_pos hc11, if_pos hc12]; exact F_column_b1_10)
        · first | (exact F_afterCarriageReturn_b1_10) | (simp only [own_line, own_col, if_neg hc3, if_pos hc11, if_pos hc12]; exact F_afterCarriageReturn_b1_10)
        · first | (exact F_afterHighSurrogate_b1_10) | (simp only [own_line, own_col, if_neg hc3, if_pos hc11, if_pos hc12]; exact F_afterHighSurrogate_b1_10)
      · refine own_go (fun _ k => XS.ifNo X10.here hx rfl (hb hby d1_31) rfl ((if0 _ _).trans (feq hc12).1) k) ?_
        show own_Fin _ _ _ _ _ _ _ (T10.setTop (mkF m 34 #[.val (.int p0), .val (.int p1), .val (.ref b1)] []))
        refine own_go (fun _ k => XS.aloadN X10.here hx rfl (hb hby d1_34) rfl rfl k) ?_
        show own_Fin _ _ _ _ _ _ _ (T10.setTop (mkF m 35 #[.val (.int p0), .val (.int p1), .val (.ref b1)] [(.ref b1)]))
        refine own_go (fun _ k => XS.iloadN X10.here hx rfl (hb hby d1_35) rfl k) ?_
        show own_Fin _ _ _ _ _ _ _ (T10.setTop (mkF m 36 #[.val (.int p0), .val (.int p1), .val (.ref b1)] [(.int p1), (.ref b1)]))
        obtain ⟨cq13, kq13, q13a, q13b, q13c⟩ := isOf hZ rfl E_b1_10
        obtain ⟨_, _, ⟨T13, L13, k13, n13⟩, -, X13, ⟨Lc13, hQ13, l13, y13, z13⟩, st13⟩ := X10.virtualBack hx (y := (⟨"com/example/blinkset/blinkset/TextPosition", "advanceColumns", "(I)V"⟩ : MethodName)) (z := (⟨"com/example/blinkset/blinkset/TextPosition", "advanceColumns", "(I)V"⟩ : MethodName)) hown (mvT hZ (hw _ (List.mem_of_getElem? (i := 19) rfl))) (mvT hZ (hw _ (List.mem_of_getElem? (i := 20) rfl))) (notFace_of_selects (args := #[]) (mvT hZ (hw _ (List.mem_of_getElem? (i := 22) rfl)))) (mvT hZ (hw _ (List.mem_of_getElem? (i := 22) rfl))) (mvT hZ (hw _ (List.mem_of_getElem? (i := 21) rfl))) (by decide) (backOf (W := 0) (rm4 l Z a0 hw [] b1 p1 ((1 : Int32) + (1 : Int32)) (1 : Int32) T10.heap n0 Z10 E_b1_10 F_line_b1_10 F_column_b1_10 F_afterCarriageReturn_b1_10 F_afterHighSurrogate_b1_10 ge_b1) hZ (hw _ (List.mem_of_getElem? (i := 23) rfl)) (hw _ (List.mem_of_getElem? (i := 8) rfl)) (by decide) (by decide)) q13a q13c (g := (mkF m 36 #[.val (.int p0), .val (.int p1), .val (.ref b1)] [(.int p1), (.ref b1)])) rfl (by rw [hml]; rfl) (Steps.refl _) (argsL := [(.int p1)]) (rest := []) (lenOf own_pd60 rfl) rfl (by show 2 * 0 + _ ≤ _; exact Nat.le_of_eq rfl) (hb hby d1_36) (fun _ _ => ⟨rfl, rfl, (by decide : 1 + 0 ≤ _), (by decide : 4 + 0 ≤ _)⟩)
        dsimp only [Pt.U, Pt.locs, Pt.cells, Pt.slots] at X13 l13 y13 z13 st13 hQ13
        replace y13 : 1 = k13 := y13.symm
        replace z13 : 4 = n13 := z13.symm
        subst y13 z13
        obtain ⟨rfl, N13q, Kq13, E_b1_13, F_line_b1_13, F_column_b1_13, F_afterCarriageReturn_b1_13, F_afterHighSurrogate_b1_13⟩ := hQ13
        have N13 : Fr n0 L13 := by rw [l13]; exact Fr.app N10 N13q
        have K13 := Keep.trans K10 Kq13 (allS (Or.inr sz_b1) all0)
        have Z13 : n0 ≤ T13.heap.size := Nat.le_trans Z10 Kq13.1
        refine own_go (fun tg k => st13.trans k) ?_
        show own_Fin _ _ _ _ _ _ _ (T13.setTop (mkF m 39 #[.val (.int p0), .val (.int p1), .val (.ref b1)] []))
        refine own_go (fun _ k => XS.aloadN X13.here hx rfl (hb hby d1_39) rfl rfl k) ?_
        show own_Fin _ _ _ _ _ _ _ (T13.setTop (mkF m 40 #[.val (.int p0), .val (.int p1), .val (.ref b1)] [(.ref b1)]))
        refine own_ret X13 hx hlk Bd.returns rfl (Or.inr (Or.inr (Or.inr (Or.inr ⟨rfl, rfl, rfl⟩)))) (hb hby d1_40) (Nat.le_of_ble_eq_true rfl) (Nat.le_of_ble_eq_true rfl) ?_
        refine ⟨b1, ?_, N13, K13, sz_b1, E_b1_13, ?_, ?_, ?_, ?_⟩
        · first | (simp only [if_neg hc3, if_pos hc11, if_neg hc12]; done) | (simp only [if_neg hc3, if_pos hc11, if_neg hc12]; rfl) | rfl
        · first | (exact F_line_b1_13) | (simp only [own_line, own_col, if_neg hc3, if_pos hc11, if_neg hc12]; exact F_line_b1_13)
        · first | (exact F_column_b1_13) | (simp only [own_line, own_col, if_neg hc3, if_pos hc11, if_neg hc12]; exact F_column_b1_13)
        · first | (exact F_afterCarriageReturn_b1_13) | (simp only [own_line, own_col, if_neg hc3, if_pos hc11, if_neg hc12]; exact F_afterCarriageReturn_b1_13)
        · first | (exact F_afterHighSurrogate_b1_13) | (simp only [own_line, own_col, if_neg hc3, if_pos hc11, if_neg hc12]; exact F_afterHighSurrogate_b1_13)
    · refine own_go (fun _ k => XS.icmpNo X10.here hx rfl (hb hby d1_21) rfl (flt hc11).1 k) ?_
      show own_Fin _ _ _ _ _ _ _ (T10.setTop (mkF m 24 #[.val (.int p0), .val (.int p1), .val (.ref b1)] []))
      refine own_go (fun _ k => XS.aloadN X10.here hx rfl (hb hby d1_24) rfl rfl k) ?_
      show own_Fin _ _ _ _ _ _ _ (T10.setTop (mkF m 25 #[.val (.int p0), .val (.int p1), .val (.ref b1)] [(.ref b1)]))
      refine own_go (fun _ k => XS.bipush X10.here hx rfl (hb hby d1_25) k) ?_
      show own_Fin _ _ _ _ _ _ _ (T10.setTop (mkF m 27 #[.val (.int p0), .val (.int p1), .val (.ref b1)] [(.int (10 : Int32)), (.ref b1)]))
      obtain ⟨cq14, kq14, q14a, q14b, q14c⟩ := isOf hZ rfl E_b1_10
      obtain ⟨_, _, ⟨T14, L14, k14, n14⟩, -, X14, ⟨Lc14, hQ14, l14, y14, z14⟩, st14⟩ := X10.virtualBack hx (y := (⟨"com/example/blinkset/blinkset/TextPosition", "advance", "(C)V"⟩ : MethodName)) (z := (⟨"com/example/blinkset/blinkset/TextPosition", "advance", "(C)V"⟩ : MethodName)) hown (mvT hZ (hw _ (List.mem_of_getElem? (i := 28) rfl))) (mvT hZ (hw _ (List.mem_of_getElem? (i := 29) rfl))) (notFace_of_selects (args := #[]) (mvT hZ (hw _ (List.mem_of_getElem? (i := 31) rfl)))) (mvT hZ (hw _ (List.mem_of_getElem? (i := 31) rfl))) (mvT hZ (hw _ (List.mem_of_getElem? (i := 30) rfl))) (by decide) (backOf (W := 0) (rm5 l Z a0 hw [] b1 (10 : Int32) ((1 : Int32) + (1 : Int32)) (1 : Int32) T10.heap n0 Z10 E_b1_10 F_line_b1_10 F_column_b1_10 F_afterCarriageReturn_b1_10 F_afterHighSurrogate_b1_10 ge_b1 rfl) hZ (hw _ (List.mem_of_getElem? (i := 32) rfl)) (hw _ (List.mem_of_getElem? (i := 8) rfl)) (by decide) (by decide)) q14a q14c (g := (mkF m 27 #[.val (.int p0), .val (.int p1), .val (.ref b1)] [(.int (10 : Int32)), (.ref b1)])) rfl (by rw [hml]; rfl) (Steps.refl _) (argsL := [(.int (10 : Int32))]) (rest := []) (lenOf own_pd61 rfl) rfl (by show 2 * 0 + _ ≤ _; exact Nat.le_of_eq rfl) (hb hby d1_27) (fun _ _ => ⟨rfl, rfl, (by decide : 1 + 0 ≤ _), (by decide : 4 + 0 ≤ _)⟩)
      dsimp only [Pt.U, Pt.locs, Pt.cells, Pt.slots] at X14 l14 y14 z14 st14 hQ14
      replace y14 : 1 = k14 := y14.symm
      replace z14 : 4 = n14 := z14.symm
      subst y14 z14
      obtain ⟨rfl, N14q, Kq14, E_b1_14, F_line_b1_14, F_column_b1_14, F_afterCarriageReturn_b1_14, F_afterHighSurrogate_b1_14⟩ := hQ14
      have N14 : Fr n0 L14 := by rw [l14]; exact Fr.app N10 N14q
      have K14 := Keep.trans K10 Kq14 (allS (Or.inr sz_b1) all0)
      have Z14 : n0 ≤ T14.heap.size := Nat.le_trans Z10 Kq14.1
      refine own_go (fun tg k => st14.trans k) ?_
      show own_Fin _ _ _ _ _ _ _ (T14.setTop (mkF m 30 #[.val (.int p0), .val (.int p1), .val (.ref b1)] []))
      refine own_go (fun _ k => XS.iloadN X14.here hx rfl (hb hby d1_30) rfl k) ?_
      show own_Fin _ _ _ _ _ _ _ (T14.setTop (mkF m 31 #[.val (.int p0), .val (.int p1), .val (.ref b1)] [(.int p1)]))
      by_cases hc15 : p1 = (0 : Int32)
      · refine own_go (fun _ k => XS.ifYes X14.here hx rfl (pc0 := 31) (pc' := 39) rfl (hb hby d1_31) rfl ((if0 _ _).trans (teq hc15).1) (by decide) (by decide) k) ?_
        show own_Fin _ _ _ _ _ _ _ (T14.setTop (mkF m 39 #[.val (.int p0), .val (.int p1), .val (.ref b1)] []))
        refine own_go (fun _ k => XS.aloadN X14.here hx rfl (hb hby d1_39) rfl rfl k) ?_
        show own_Fin _ _ _ _ _ _ _ (T14.setTop (mkF m 40 #[.val (.int p0), .val (.int p1), .val (.ref b1)] [(.ref b1)]))
        refine own_ret X14 hx hlk Bd.returns rfl (Or.inr (Or.inr (Or.inr (Or.inr ⟨rfl, rfl, rfl⟩)))) (hb hby d1_40) (Nat.le_of_ble_eq_true rfl) (Nat.le_of_ble_eq_true rfl) ?_
        refine ⟨b1, ?_, N14, K14, sz_b1, E_b1_14, ?_, ?_, ?_, ?_⟩
        · first | (simp only [if_neg hc3, if_neg hc11, if_pos hc15]; done) | (simp only [if_neg hc3, if_neg hc11, if_pos hc15]; rfl) | rfl
        · first | (exact F_line_b1_14) | (simp only [own_line, own_col, if_neg hc3, if_neg hc11, if_pos hc15]; exact F_line_b1_14)
        · first | (exact F_column_b1_14) | (simp only [own_line, own_col, if_neg hc3, if_neg hc11, if_pos hc15]; exact F_column_b1_14)
        · first | (exact F_afterCarriageReturn_b1_14) | (simp only [own_line, own_col, if_neg hc3, if_neg hc11, if_pos hc15]; exact F_afterCarriageReturn_b1_14)
        · first | (exact F_afterHighSurrogate_b1_14) | (simp only [own_line, own_col, if_neg hc3, if_neg hc11, if_pos hc15]; exact F_afterHighSurrogate_b1_14)
      · refine own_go (fun _ k => XS.ifNo X14.here hx rfl (hb hby d1_31) rfl ((if0 _ _).trans (feq hc15).1) k) ?_
        show own_Fin _ _ _ _ _ _ _ (T14.setTop (mkF m 34 #[.val (.int p0), .val (.int p1), .val (.ref b1)] []))
        refine own_go (fun _ k => XS.aloadN X14.here hx rfl (hb hby d1_34) rfl rfl k) ?_
        show own_Fin _ _ _ _ _ _ _ (T14.setTop (mkF m 35 #[.val (.int p0), .val (.int p1), .val (.ref b1)] [(.ref b1)]))
        refine own_go (fun _ k => XS.iloadN X14.here hx rfl (hb hby d1_35) rfl k) ?_
        show own_Fin _ _ _ _ _ _ _ (T14.setTop (mkF m 36 #[.val (.int p0), .val (.int p1), .val (.ref b1)] [(.int p1), (.ref b1)]))
        obtain ⟨cq16, kq16, q16a, q16b, q16c⟩ := isOf hZ rfl E_b1_14
        obtain ⟨_, _, ⟨T16, L16, k16, n16⟩, -, X16, ⟨Lc16, hQ16, l16, y16, z16⟩, st16⟩ := X14.virtualBack hx (y := (⟨"com/example/blinkset/blinkset/TextPosition", "advanceColumns", "(I)V"⟩ : MethodName)) (z := (⟨"com/example/blinkset/blinkset/TextPosition", "advanceColumns", "(I)V"⟩ : MethodName)) hown (mvT hZ (hw _ (List.mem_of_getElem? (i := 19) rfl))) (mvT hZ (hw _ (List.mem_of_getElem? (i := 20) rfl))) (notFace_of_selects (args := #[]) (mvT hZ (hw _ (List.mem_of_getElem? (i := 22) rfl)))) (mvT hZ (hw _ (List.mem_of_getElem? (i := 22) rfl))) (mvT hZ (hw _ (List.mem_of_getElem? (i := 21) rfl))) (by decide) (backOf (W := 0) (rm4 l Z a0 hw [] b1 p1 (((1 : Int32) + (1 : Int32)) + (1 : Int32)) (1 : Int32) T14.heap n0 Z14 E_b1_14 F_line_b1_14 F_column_b1_14 F_afterCarriageReturn_b1_14 F_afterHighSurrogate_b1_14 ge_b1) hZ (hw _ (List.mem_of_getElem? (i := 23) rfl)) (hw _ (List.mem_of_getElem? (i := 8) rfl)) (by decide) (by decide)) q16a q16c (g := (mkF m 36 #[.val (.int p0), .val (.int p1), .val (.ref b1)] [(.int p1), (.ref b1)])) rfl (by rw [hml]; rfl) (Steps.refl _) (argsL := [(.int p1)]) (rest := []) (lenOf own_pd60 rfl) rfl (by show 2 * 0 + _ ≤ _; exact Nat.le_of_eq rfl) (hb hby d1_36) (fun _ _ => ⟨rfl, rfl, (by decide : 1 + 0 ≤ _), (by decide : 4 + 0 ≤ _)⟩)
        dsimp only [Pt.U, Pt.locs, Pt.cells, Pt.slots] at X16 l16 y16 z16 st16 hQ16
        replace y16 : 1 = k16 := y16.symm
        replace z16 : 4 = n16 := z16.symm
        subst y16 z16
        obtain ⟨rfl, N16q, Kq16, E_b1_16, F_line_b1_16, F_column_b1_16, F_afterCarriageReturn_b1_16, F_afterHighSurrogate_b1_16⟩ := hQ16
        have N16 : Fr n0 L16 := by rw [l16]; exact Fr.app N14 N16q
        have K16 := Keep.trans K14 Kq16 (allS (Or.inr sz_b1) all0)
        have Z16 : n0 ≤ T16.heap.size := Nat.le_trans Z14 Kq16.1
        refine own_go (fun tg k => st16.trans k) ?_
        show own_Fin _ _ _ _ _ _ _ (T16.setTop (mkF m 39 #[.val (.int p0), .val (.int p1), .val (.ref b1)] []))
        refine own_go (fun _ k => XS.aloadN X16.here hx rfl (hb hby d1_39) rfl rfl k) ?_
        show own_Fin _ _ _ _ _ _ _ (T16.setTop (mkF m 40 #[.val (.int p0), .val (.int p1), .val (.ref b1)] [(.ref b1)]))
        refine own_ret X16 hx hlk Bd.returns rfl (Or.inr (Or.inr (Or.inr (Or.inr ⟨rfl, rfl, rfl⟩)))) (hb hby d1_40) (Nat.le_of_ble_eq_true rfl) (Nat.le_of_ble_eq_true rfl) ?_
        refine ⟨b1, ?_, N16, K16, sz_b1, E_b1_16, ?_, ?_, ?_, ?_⟩
        · first | (simp only [if_neg hc3, if_neg hc11, if_neg hc15]; done) | (simp only [if_neg hc3, if_neg hc11, if_neg hc15]; rfl) | rfl
        · first | (exact F_line_b1_16) | (simp only [own_line, own_col, if_neg hc3, if_neg hc11, if_neg hc15]; exact F_line_b1_16)
        · first | (exact F_column_b1_16) | (simp only [own_line, own_col, if_neg hc3, if_neg hc11, if_neg hc15]; exact F_column_b1_16)
        · first | (exact F_afterCarriageReturn_b1_16) | (simp only [own_line, own_col, if_neg hc3, if_neg hc11, if_neg hc15]; exact F_afterCarriageReturn_b1_16)
        · first | (exact F_afterHighSurrogate_b1_16) | (simp only [own_line, own_col, if_neg hc3, if_neg hc11, if_neg hc15]; exact F_afterHighSurrogate_b1_16)
theorem d7_0 : decode prog_30_method_5_code 0 = .ok (.aload_n 0, 1) := by decide +kernel
theorem d7_1 : decode prog_30_method_5_code 1 = .ok (.getfield 7, 3) := by decide +kernel
theorem d7_4 : decode prog_30_method_5_code 4 = .ok (.aload_n 1, 1) := by decide +kernel
theorem d7_5 : decode prog_30_method_5_code 5 = .ok (.getfield 7, 3) := by decide +kernel
theorem d7_8 : decode prog_30_method_5_code 8 = .ok (.if_icmp .lt 25, 3) := by decide +kernel
theorem d7_11 : decode prog_30_method_5_code 11 = .ok (.aload_n 0, 1) := by decide +kernel
theorem d7_12 : decode prog_30_method_5_code 12 = .ok (.getfield 7, 3) := by decide +kernel
theorem d7_15 : decode prog_30_method_5_code 15 = .ok (.aload_n 1, 1) := by decide +kernel
theorem d7_16 : decode prog_30_method_5_code 16 = .ok (.getfield 7, 3) := by decide +kernel
theorem d7_19 : decode prog_30_method_5_code 19 = .ok (.if_icmp .ne 18, 3) := by decide +kernel
theorem d7_22 : decode prog_30_method_5_code 22 = .ok (.aload_n 0, 1) := by decide +kernel
theorem d7_23 : decode prog_30_method_5_code 23 = .ok (.getfield 13, 3) := by decide +kernel
theorem d7_26 : decode prog_30_method_5_code 26 = .ok (.aload_n 1, 1) := by decide +kernel
theorem d7_27 : decode prog_30_method_5_code 27 = .ok (.getfield 13, 3) := by decide +kernel
theorem d7_30 : decode prog_30_method_5_code 30 = .ok (.if_icmp .ge 7, 3) := by decide +kernel
theorem d7_33 : decode prog_30_method_5_code 33 = .ok (.iconst 1, 1) := by decide +kernel
theorem d7_34 : decode prog_30_method_5_code 34 = .ok (.goto 4, 3) := by decide +kernel
theorem d7_37 : decode prog_30_method_5_code 37 = .ok (.iconst 0, 1) := by decide +kernel
theorem d7_38 : decode prog_30_method_5_code 38 = .ok (.ireturn, 1) := by decide +kernel
theorem pn_7 : plainName "com/example/blinkset/blinkset/TextPosition" = true := by first | (simp [plainName, overriddenIn]; done) | decide +kernel
theorem ef_7 (m : MethodId) (r0 : Addr) (r1 : Addr) : entryFrame m #[(.ref r0), (.ref r1)] 2 = mkF m 0 #[.val (.ref r0), .val (.ref r1)] [] := by first | (simp [entryFrame, mkF, argsToLocals, Value.category]; done) | rfl
def rm7_room : Room := { frames := 0, cells := 0, slots := 0, locals := 0 }
def own_f7 (x1 : Int32) (x2 : Int32) (x3 : Int32) (x4 : Int32) : Int32 := (if x1 < x3 then ((1 : Int32)) else ((if x1 = x3 then ((if x2 < x4 then ((1 : Int32)) else ((0 : Int32)))) else ((0 : Int32)))))
def Qrm7 (Z : State) (r0 : Addr) (r1 : Addr) (x1 : Int32) (x2 : Int32) (x3 : Int32) (x4 : Int32) (h0 : Heap) (n0 : Nat) (v : Option Value) (h : Heap) (L : List Loc) : Prop := v = some (.int (own_f7 x1 x2 x3 x4)) ∧ Fr n0 L ∧ h = h0
theorem own_lf_own_f7_1 {x1 : Int32} {x2 : Int32} {x3 : Int32} {x4 : Int32} (hc3 : x1 < x3) : (some (.int (1 : Int32)) : Option Value) = some (.int (own_f7 x1 x2 x3 x4)) := by
  first | (simp only [own_f7, if_pos hc3]; done) | (simp only [own_f7, if_pos hc3]; rfl) | rfl
theorem own_lf_own_f7_2 {x1 : Int32} {x2 : Int32} {x3 : Int32} {x4 : Int32} (hc3 : ¬ (x1 < x3)) (hc6 : x1 = x3) (hc9 : x2 < x4) : (some (.int (1 : Int32)) : Option Value) = some (.int (own_f7 x1 x2 x3 x4)) := by
  first | (simp only [own_f7, if_neg hc3, if_pos hc6, if_pos hc9]; done) | (simp only [own_f7, if_neg hc3, if_pos hc6, if_pos hc9]; rfl) | rfl
theorem own_lf_own_f7_3 {x1 : Int32} {x2 : Int32} {x3 : Int32} {x4 : Int32} (hc3 : ¬ (x1 < x3)) (hc6 : x1 = x3) (hc9 : ¬ (x2 < x4)) : (some (.int (0 : Int32)) : Option Value) = some (.int (own_f7 x1 x2 x3 x4)) := by
  first | (simp only [own_f7, if_neg hc3, if_pos hc6, if_neg hc9]; done) | (simp only [own_f7, if_neg hc3, if_pos hc6, if_neg hc9]; rfl) | rfl
theorem own_lf_own_f7_4 {x1 : Int32} {x2 : Int32} {x3 : Int32} {x4 : Int32} (hc3 : ¬ (x1 < x3)) (hc6 : ¬ (x1 = x3)) : (some (.int (0 : Int32)) : Option Value) = some (.int (own_f7 x1 x2 x3 x4)) := by
  first | (simp only [own_f7, if_neg hc3, if_neg hc6]; done) | (simp only [own_f7, if_neg hc3, if_neg hc6]; rfl) | rfl
set_option maxRecDepth 65536 in
set_option maxHeartbeats 40000000 in
theorem rm7 (l : Launch) (Z : State) (a0 : Array Value) (hw : ∀ d ∈ tables_1, d.before a0 Z = true) (ws : List Jvm.Cond) (r0 : Addr) (r1 : Addr) (x1 : Int32) (x2 : Int32) (x3 : Int32) (x4 : Int32) (h0 : Heap) (n0 : Nat) (Z0 : n0 ≤ h0.size) (F_line_r0_0 : Fld Z h0 r0 "com/example/blinkset/blinkset/TextPosition" "line" "I" (.int x1)) (F_column_r0_0 : Fld Z h0 r0 "com/example/blinkset/blinkset/TextPosition" "column" "I" (.int x2)) (F_line_r1_0 : Fld Z h0 r1 "com/example/blinkset/blinkset/TextPosition" "line" "I" (.int x3)) (F_column_r1_0 : Fld Z h0 r1 "com/example/blinkset/blinkset/TextPosition" "column" "I" (.int x4)) :
    MetFree l (⟨"com/example/blinkset/blinkset/TextPosition", "isBefore", "(Lcom/example/blinkset/blinkset/TextPosition;)Z"⟩ : MethodName) (head1 (Jvm.Cond.code (⟨"com/example/blinkset/blinkset/TextPosition", "isBefore", "(Lcom/example/blinkset/blinkset/TextPosition;)Z"⟩ : MethodName) prog_30_method_5_code 2 (some .boolean) :: ws) rm7_room) (fun a U => a = #[(.ref r0), (.ref r1)] ∧ Z.Warmed39 U.vm ∧ U.heap = h0) (fun _ _ _ _ _ => True) (fun _ U o U' => ∃ v L, o = .returned v ∧ Qrm7 Z r0 r1 x1 x2 x3 x4 h0 n0 v U'.heap L ∧ FrameEnd U o U' L rm7_room.cells rm7_room.slots) := by
  refine MetFree.of_bodySF (plainFor_of_name pn_7) hisR ?_
  intro p e s m args below meth c s₁ Bd hml0 hP hK
  obtain ⟨rfl, hZ, hh⟩ := hP
  have hx := Bd.exec
  have hby := Bd.bytes
  have hml : c.maxLocals = 2 := hml0
  have hown : s.vm.findClass "com/example/blinkset/blinkset/TextPosition" = some m.cls := findClass_of_methodNamed Bd.named
  have hnm := (name_of_methodNamed Bd.named Bd.method).1
  have hlk : meth.locks = false := BodyLoose.notSynchronized Bd
  have X0 : Stand p l e rm7_room s m #[(.ref r0), (.ref r1)] below meth c s₁ [] 0 0 := Stand.of_body Bd
  have e0 : s₁.heap = h0 := by rw [← hh, Bd.state]; rfl
  have N0 := Fr.nil n0
  show own_Fin p.tables e below s (Qrm7 Z r0 r1 x1 x2 x3 x4 h0 n0) rm7_room.cells rm7_room.slots (s₁.setTop (entryFrame m #[(.ref r0), (.ref r1)] 2))
  rw [ef_7]
  show own_Fin _ _ _ _ _ _ _ (s₁.setTop (mkF m 0 #[.val (.ref r0), .val (.ref r1)] []))
  refine own_go (fun _ k => XS.aloadN X0.here hx rfl (hb hby d7_0) rfl rfl k) ?_
  show own_Fin _ _ _ _ _ _ _ (s₁.setTop (mkF m 1 #[.val (.ref r0), .val (.ref r1)] [(.ref r0)]))
  obtain ⟨T1, X1, e1, st1⟩ := getF X0 hx hZ hown (host := "") (Or.inl (hw _ (List.mem_of_getElem? (i := 15) rfl))) Via.refl e0 F_line_r0_0 (g := (mkF m 1 #[.val (.ref r0), .val (.ref r1)] [(.ref r0)])) rfl rfl (hb hby d7_1)
  refine own_go (fun tg k => st1 tg k) ?_
  show own_Fin _ _ _ _ _ _ _ (T1.setTop (mkF m 4 #[.val (.ref r0), .val (.ref r1)] [(.int x1)]))
  refine own_go (fun _ k => XS.aloadN X1.here hx rfl (hb hby d7_4) rfl rfl k) ?_
  show own_Fin _ _ _ _ _ _ _ (T1.setTop (mkF m 5 #[.val (.ref r0), .val (.ref r1)] [(.ref r1), (.int x1)]))
  obtain ⟨T2, X2, e2, st2⟩ := getF X1 hx hZ hown (host := "") (Or.inl (hw _ (List.mem_of_getElem? (i := 15) rfl))) Via.refl e1 F_line_r1_0 (g := (mkF m 5 #[.val (.ref r0), .val (.ref r1)] [(.ref r1), (.int x1)])) rfl rfl (hb hby d7_5)
  refine own_go (fun tg k => st2 tg k) ?_
  show own_Fin _ _ _ _ _ _ _ (T2.setTop (mkF m 8 #[.val (.ref r0), .val (.ref r1)] [(.int x3), (.int x1)]))
  by_cases hc3 : x1 < x3
  · refine own_go (fun _ k => XS.icmpYes X2.here hx rfl (pc0 := 8) (pc' := 33) rfl (hb hby d7_8) rfl (tlt hc3).1 (by decide) (by decide) k) ?_
    show own_Fin _ _ _ _ _ _ _ (T2.setTop (mkF m 33 #[.val (.ref r0), .val (.ref r1)] []))
    refine own_go (fun _ k => XS.iconst X2.here hx rfl (hb hby d7_33) k) ?_
    show own_Fin _ _ _ _ _ _ _ (T2.setTop (mkF m 34 #[.val (.ref r0), .val (.ref r1)] [(.int (1 : Int32))]))
    refine own_go (fun _ k => XS.goto X2.here hx rfl (pc0 := 34) (pc' := 38) rfl (hb hby d7_34) (by decide) (by decide) k) ?_
    show own_Fin _ _ _ _ _ _ _ (T2.setTop (mkF m 38 #[.val (.ref r0), .val (.ref r1)] [(.int (1 : Int32))]))
    refine own_ret X2 hx hlk Bd.returns rfl (Or.inl ⟨rfl, by simp, _, rfl⟩) (hb hby d7_38) (Nat.le_of_ble_eq_true rfl) (Nat.le_of_ble_eq_true rfl) ?_
    refine ⟨(own_lf_own_f7_1 (x1 := x1) (x2 := x2) (x3 := x3) (x4 := x4) hc3), N0, e2⟩
  · refine own_go (fun _ k => XS.icmpNo X2.here hx rfl (hb hby d7_8) rfl (flt hc3).1 k) ?_
    show own_Fin _ _ _ _ _ _ _ (T2.setTop (mkF m 11 #[.val (.ref r0), .val (.ref r1)] []))
    refine own_go (fun _ k => XS.aloadN X2.here hx rfl (hb hby d7_11) rfl rfl k) ?_
    show own_Fin _ _ _ _ _ _ _ (T2.setTop (mkF m 12 #[.val (.ref r0), .val (.ref r1)] [(.ref r0)]))
    obtain ⟨T4, X4, e4, st4⟩ := getF X2 hx hZ hown (host := "") (Or.inl (hw _ (List.mem_of_getElem? (i := 15) rfl))) Via.refl e2 F_line_r0_0 (g := (mkF m 12 #[.val (.ref r0), .val (.ref r1)] [(.ref r0)])) rfl rfl (hb hby d7_12)
    refine own_go (fun tg k => st4 tg k) ?_
    show own_Fin _ _ _ _ _ _ _ (T4.setTop (mkF m 15 #[.val (.ref r0), .val (.ref r1)] [(.int x1)]))
    refine own_go (fun _ k => XS.aloadN X4.here hx rfl (hb hby d7_15) rfl rfl k) ?_
    show own_Fin _ _ _ _ _ _ _ (T4.setTop (mkF m 16 #[.val (.ref r0), .val (.ref r1)] [(.ref r1), (.int x1)]))
    obtain ⟨T5, X5, e5, st5⟩ := getF X4 hx hZ hown (host := "") (Or.inl (hw _ (List.mem_of_getElem? (i := 15) rfl))) Via.refl e4 F_line_r1_0 (g := (mkF m 16 #[.val (.ref r0), .val (.ref r1)] [(.ref r1), (.int x1)])) rfl rfl (hb hby d7_16)
    refine own_go (fun tg k => st5 tg k) ?_
    show own_Fin _ _ _ _ _ _ _ (T5.setTop (mkF m 19 #[.val (.ref r0), .val (.ref r1)] [(.int x3), (.int x1)]))
    by_cases hc6 : x1 = x3
    · refine own_go (fun _ k => XS.icmpNo X5.here hx rfl (hb hby d7_19) rfl (teq hc6).2 k) ?_
      show own_Fin _ _ _ _ _ _ _ (T5.setTop (mkF m 22 #[.val (.ref r0), .val (.ref r1)] []))
      refine own_go (fun _ k => XS.aloadN X5.here hx rfl (hb hby d7_22) rfl rfl k) ?_
      show own_Fin _ _ _ _ _ _ _ (T5.setTop (mkF m 23 #[.val (.ref r0), .val (.ref r1)] [(.ref r0)]))
      obtain ⟨T7, X7, e7, st7⟩ := getF X5 hx hZ hown (host := "") (Or.inl (hw _ (List.mem_of_getElem? (i := 17) rfl))) Via.refl e5 F_column_r0_0 (g := (mkF m 23 #[.val (.ref r0), .val (.ref r1)] [(.ref r0)])) rfl rfl (hb hby d7_23)
      refine own_go (fun tg k => st7 tg k) ?_
      show own_Fin _ _ _ _ _ _ _ (T7.setTop (mkF m 26 #[.val (.ref r0), .val (.ref r1)] [(.int x2)]))
      refine own_go (fun _ k => XS.aloadN X7.here hx rfl (hb hby d7_26) rfl rfl k) ?_
      show own_Fin _ _ _ _ _ _ _ (T7.setTop (mkF m 27 #[.val (.ref r0), .val (.ref r1)] [(.ref r1), (.int x2)]))
      obtain ⟨T8, X8, e8, st8⟩ := getF X7 hx hZ hown (host := "") (Or.inl (hw _ (List.mem_of_getElem? (i := 17) rfl))) Via.refl e7 F_column_r1_0 (g := (mkF m 27 #[.val (.ref r0), .val (.ref r1)] [(.ref r1), (.int x2)])) rfl rfl (hb hby d7_27)
      refine own_go (fun tg k => st8 tg k) ?_
      show own_Fin _ _ _ _ _ _ _ (T8.setTop (mkF m 30 #[.val (.ref r0), .val (.ref r1)] [(.int x4), (.int x2)]))
      by_cases hc9 : x2 < x4
      · refine own_go (fun _ k => XS.icmpNo X8.here hx rfl (hb hby d7_30) rfl (tlt hc9).2.1 k) ?_
        show own_Fin _ _ _ _ _ _ _ (T8.setTop (mkF m 33 #[.val (.ref r0), .val (.ref r1)] []))
        refine own_go (fun _ k => XS.iconst X8.here hx rfl (hb hby d7_33) k) ?_
        show own_Fin _ _ _ _ _ _ _ (T8.setTop (mkF m 34 #[.val (.ref r0), .val (.ref r1)] [(.int (1 : Int32))]))
        refine own_go (fun _ k => XS.goto X8.here hx rfl (pc0 := 34) (pc' := 38) rfl (hb hby d7_34) (by decide) (by decide) k) ?_
        show own_Fin _ _ _ _ _ _ _ (T8.setTop (mkF m 38 #[.val (.ref r0), .val (.ref r1)] [(.int (1 : Int32))]))
        refine own_ret X8 hx hlk Bd.returns rfl (Or.inl ⟨rfl, by simp, _, rfl⟩) (hb hby d7_38) (Nat.le_of_ble_eq_true rfl) (Nat.le_of_ble_eq_true rfl) ?_
        refine ⟨(own_lf_own_f7_2 (x1 := x1) (x2 := x2) (x3 := x3) (x4 := x4) hc3 hc6 hc9), N0, e8⟩
      · refine own_go (fun _ k => XS.icmpYes X8.here hx rfl (pc0 := 30) (pc' := 37) rfl (hb hby d7_30) rfl (flt hc9).2.1 (by decide) (by decide) k) ?_
        show own_Fin _ _ _ _ _ _ _ (T8.setTop (mkF m 37 #[.val (.ref r0), .val (.ref r1)] []))
        refine own_go (fun _ k => XS.iconst X8.here hx rfl (hb hby d7_37) k) ?_
        show own_Fin _ _ _ _ _ _ _ (T8.setTop (mkF m 38 #[.val (.ref r0), .val (.ref r1)] [(.int (0 : Int32))]))
        refine own_ret X8 hx hlk Bd.returns rfl (Or.inl ⟨rfl, by simp, _, rfl⟩) (hb hby d7_38) (Nat.le_of_ble_eq_true rfl) (Nat.le_of_ble_eq_true rfl) ?_
        refine ⟨(own_lf_own_f7_3 (x1 := x1) (x2 := x2) (x3 := x3) (x4 := x4) hc3 hc6 hc9), N0, e8⟩
    · refine own_go (fun _ k => XS.icmpYes X5.here hx rfl (pc0 := 19) (pc' := 37) rfl (hb hby d7_19) rfl (feq hc6).2 (by decide) (by decide) k) ?_
      show own_Fin _ _ _ _ _ _ _ (T5.setTop (mkF m 37 #[.val (.ref r0), .val (.ref r1)] []))
      refine own_go (fun _ k => XS.iconst X5.here hx rfl (hb hby d7_37) k) ?_
      show own_Fin _ _ _ _ _ _ _ (T5.setTop (mkF m 38 #[.val (.ref r0), .val (.ref r1)] [(.int (0 : Int32))]))
      refine own_ret X5 hx hlk Bd.returns rfl (Or.inl ⟨rfl, by simp, _, rfl⟩) (hb hby d7_38) (Nat.le_of_ble_eq_true rfl) (Nat.le_of_ble_eq_true rfl) ?_
      refine ⟨(own_lf_own_f7_4 (x1 := x1) (x2 := x2) (x3 := x3) (x4 := x4) hc3 hc6), N0, e5⟩
theorem own_pd106 : parseMethodDescriptor "(II)Lcom/example/blinkset/blinkset/TextPosition;" = some ⟨[.int, .int], some (.object "com/example/blinkset/blinkset/TextPosition")⟩ := by decide +kernel
theorem own_pd107 : parseMethodDescriptor "(Lcom/example/blinkset/blinkset/TextPosition;)Z" = some ⟨[(.object "com/example/blinkset/blinkset/TextPosition")], some .boolean⟩ := by decide +kernel
theorem pn_0 : plainName "com/example/blinkset/blinkset/TextPositionIsBeforePinLaw" = true := by first | (simp [plainName, overriddenIn]; done) | decide +kernel
theorem ef_0 (m : MethodId) (p0 : Int32) (p1 : Int32) (p2 : Int32) (p3 : Int32) : entryFrame m #[(.int p0), (.int p1), (.int p2), (.int p3)] maxLocals = mkF m 0 #[.val (.int p0), .val (.int p1), .val (.int p2), .val (.int p3), .unset, .unset, .unset, .unset, .unset, .unset, .unset, .unset, .unset, .unset, .unset] [] := by first | (simp [entryFrame, mkF, argsToLocals, Value.category, maxLocals]; done) | rfl
def own_f0 (p0 : Int32) (p1 : Int32) (p2 : Int32) (p3 : Int32) : Int32 := let z1 := ((p0 &&& (2147483647 : Int32)) % (3 : Int32)); let z2 := ((p2 &&& (2147483647 : Int32)) % (3 : Int32)); let z5 := ((own_lshl (((1 : Int32) + z1).toInt64) (31 : Int32)) + (((1 : Int32) + (p1 &&& (1073741823 : Int32))).toInt64)); let z6 := ((own_lshl (((1 : Int32) + z2).toInt64) (31 : Int32)) + (((1 : Int32) + (p3 &&& (1073741823 : Int32))).toInt64)); let z10 := (if z5 < z6 then (1 : Int32) else (0 : Int32)); (if (own_f7 (own_line z1) (own_col (p1 &&& (1073741823 : Int32))) (own_line z2) (own_col (p3 &&& (1073741823 : Int32)))) = z10 then ((1 : Int32)) else ((0 : Int32)))
theorem own_lf_own_f0_1 {p0 : Int32} {p1 : Int32} {p2 : Int32} {p3 : Int32} {z1 : Int32} {z2 : Int32} {z5 : Int64} {z6 : Int64} {z10 : Int32} (hz1 : ((p0 &&& (2147483647 : Int32)) % (3 : Int32)) = z1) (hz2 : ((p2 &&& (2147483647 : Int32)) % (3 : Int32)) = z2) (hz5 : ((own_lshl (((1 : Int32) + z1).toInt64) (31 : Int32)) + (((1 : Int32) + (p1 &&& (1073741823 : Int32))).toInt64)) = z5) (hz6 : ((own_lshl (((1 : Int32) + z2).toInt64) (31 : Int32)) + (((1 : Int32) + (p3 &&& (1073741823 : Int32))).toInt64)) = z6) (hz10 : (if z5 < z6 then (1 : Int32) else (0 : Int32)) = z10) (hc12 : (own_f7 (own_line z1) (own_col (p1 &&& (1073741823 : Int32))) (own_line z2) (own_col (p3 &&& (1073741823 : Int32)))) = z10) : (some (.int (1 : Int32)) : Option Value) = some (.int (own_f0 p0 p1 p2 p3)) := by
  subst hz10
  subst hz6
  subst hz5
  subst hz2
  subst hz1
  first | (simp only [own_f0, if_pos hc12]; done) | (simp only [own_f0, if_pos hc12]; rfl) | rfl
theorem own_lf_own_f0_2 {p0 : Int32} {p1 : Int32} {p2 : Int32} {p3 : Int32} {z1 : Int32} {z2 : Int32} {z5 : Int64} {z6 : Int64} {z10 : Int32} (hz1 : ((p0 &&& (2147483647 : Int32)) % (3 : Int32)) = z1) (hz2 : ((p2 &&& (2147483647 : Int32)) % (3 : Int32)) = z2) (hz5 : ((own_lshl (((1 : Int32) + z1).toInt64) (31 : Int32)) + (((1 : Int32) + (p1 &&& (1073741823 : Int32))).toInt64)) = z5) (hz6 : ((own_lshl (((1 : Int32) + z2).toInt64) (31 : Int32)) + (((1 : Int32) + (p3 &&& (1073741823 : Int32))).toInt64)) = z6) (hz10 : (if z5 < z6 then (1 : Int32) else (0 : Int32)) = z10) (hc12 : ¬ ((own_f7 (own_line z1) (own_col (p1 &&& (1073741823 : Int32))) (own_line z2) (own_col (p3 &&& (1073741823 : Int32)))) = z10)) : (some (.int (0 : Int32)) : Option Value) = some (.int (own_f0 p0 p1 p2 p3)) := by
  subst hz10
  subst hz6
  subst hz5
  subst hz2
  subst hz1
  first | (simp only [own_f0, if_neg hc12]; done) | (simp only [own_f0, if_neg hc12]; rfl) | rfl
set_option maxRecDepth 65536 in
set_option maxHeartbeats 40000000 in
theorem rm0 (l : Launch) (Z : State) (a0 : Array Value) (hw : ∀ d ∈ tables_1, d.before a0 Z = true) (ws : List Jvm.Cond) (p0 : Int32) (p1 : Int32) (p2 : Int32) (p3 : Int32) (h0 : Heap) (n0 : Nat) (Z0 : n0 ≤ h0.size) :
    MetFree l x (head1 (Jvm.Cond.code x code maxLocals ret :: ws) room_1) (fun a U => a = #[(.int p0), (.int p1), (.int p2), (.int p3)] ∧ Z.Warmed39 U.vm ∧ U.heap = h0) (fun _ _ _ _ _ => True) (fun _ U o U' => ∃ v L, o = .returned v ∧ own_QL (some (.int (own_f0 p0 p1 p2 p3))) n0 v U'.heap L ∧ FrameEnd U o U' L 16 128) := by
  refine MetFree.of_bodySF (plainFor_of_name pn_0) hisR ?_
  intro p e s m args below meth c s₁ Bd hml0 hP hK
  obtain ⟨rfl, hZ, hh⟩ := hP
  have hx := Bd.exec
  have hby := Bd.bytes
  have hml : c.maxLocals = 15 := hml0
  have hown : s.vm.findClass "com/example/blinkset/blinkset/TextPositionIsBeforePinLaw" = some m.cls := findClass_of_methodNamed Bd.named
  have hnm := (name_of_methodNamed Bd.named Bd.method).1
  have hlk : meth.locks = false := BodyLoose.notSynchronized Bd
  have X0 : Stand p l e room_1 s m #[(.int p0), (.int p1), (.int p2), (.int p3)] below meth c s₁ [] 0 0 := Stand.of_body Bd
  have e0 : s₁.heap = h0 := by rw [← hh, Bd.state]; rfl
  have N0 := Fr.nil n0
  show own_Fin p.tables e below s (own_QL (some (.int (own_f0 p0 p1 p2 p3))) n0) 16 128 (s₁.setTop (entryFrame m #[(.int p0), (.int p1), (.int p2), (.int p3)] maxLocals))
  rw [ef_0]
  show own_Fin _ _ _ _ _ _ _ (s₁.setTop (mkF m 0 #[.val (.int p0), .val (.int p1), .val (.int p2), .val (.int p3), .unset, .unset, .unset, .unset, .unset, .unset, .unset, .unset, .unset, .unset, .unset] []))
  refine own_go (fun _ k => XS.iloadN X0.here hx rfl (hb hby at_0) rfl k) ?_
  show own_Fin _ _ _ _ _ _ _ (s₁.setTop (mkF m 1 #[.val (.int p0), .val (.int p1), .val (.int p2), .val (.int p3), .unset, .unset, .unset, .unset, .unset, .unset, .unset, .unset, .unset, .unset, .unset] [(.int p0)]))
  refine own_go (fun _ k => X0.ldcInt hx hown (mvT hZ (hw _ (List.mem_of_getElem? (i := 0) rfl))) (g := (mkF m 1 #[.val (.int p0), .val (.int p1), .val (.int p2), .val (.int p3), .unset, .unset, .unset, .unset, .unset, .unset, .unset, .unset, .unset, .unset, .unset] [(.int p0)])) rfl (hb hby at_1) _ k) ?_
  show own_Fin _ _ _ _ _ _ _ (s₁.setTop (mkF m 3 #[.val (.int p0), .val (.int p1), .val (.int p2), .val (.int p3), .unset, .unset, .unset, .unset, .unset, .unset, .unset, .unset, .unset, .unset, .unset] [(.int (2147483647 : Int32)), (.int p0)]))
  refine own_go (fun _ k => XS.iand X0.here hx rfl (hb hby at_3) rfl k) ?_
  show own_Fin _ _ _ _ _ _ _ (s₁.setTop (mkF m 4 #[.val (.int p0), .val (.int p1), .val (.int p2), .val (.int p3), .unset, .unset, .unset, .unset, .unset, .unset, .unset, .unset, .unset, .unset, .unset] [(.int (p0 &&& (2147483647 : Int32)))]))
  refine own_go (fun _ k => XS.iconst X0.here hx rfl (hb hby at_4) k) ?_
  show own_Fin _ _ _ _ _ _ _ (s₁.setTop (mkF m 5 #[.val (.int p0), .val (.int p1), .val (.int p2), .val (.int p3), .unset, .unset, .unset, .unset, .unset, .unset, .unset, .unset, .unset, .unset, .unset] [(.int (3 : Int32)), (.int (p0 &&& (2147483647 : Int32)))]))
  refine own_go (fun _ k => own_irem X0.here hx rfl (hb hby at_5) rfl (by decide) k) ?_
  show own_Fin _ _ _ _ _ _ _ (s₁.setTop (mkF m 6 #[.val (.int p0), .val (.int p1), .val (.int p2), .val (.int p3), .unset, .unset, .unset, .unset, .unset, .unset, .unset, .unset, .unset, .unset, .unset] [(.int ((p0 &&& (2147483647 : Int32)) % (3 : Int32)))]))
  refine own_go (fun _ k => XS.istore X0.here hx rfl (hb hby at_6) rfl (l' := #[.val (.int p0), .val (.int p1), .val (.int p2), .val (.int p3), .val (.int ((p0 &&& (2147483647 : Int32)) % (3 : Int32))), .unset, .unset, .unset, .unset, .unset, .unset, .unset, .unset, .unset, .unset]) rfl k) ?_
  show own_Fin _ _ _ _ _ _ _ (s₁.setTop (mkF m 8 #[.val (.int p0), .val (.int p1), .val (.int p2), .val (.int p3), .val (.int ((p0 &&& (2147483647 : Int32)) % (3 : Int32))), .unset, .unset, .unset, .unset, .unset, .unset, .unset, .unset, .unset, .unset] []))
  generalize hz1 : ((p0 &&& (2147483647 : Int32)) % (3 : Int32)) = z1
  show own_Fin _ _ _ _ _ _ _ (s₁.setTop (mkF m 8 #[.val (.int p0), .val (.int p1), .val (.int p2), .val (.int p3), .val (.int z1), .unset, .unset, .unset, .unset, .unset, .unset, .unset, .unset, .unset, .unset] []))
  refine own_go (fun _ k => XS.iloadN X0.here hx rfl (hb hby at_8) rfl k) ?_
  show own_Fin _ _ _ _ _ _ _ (s₁.setTop (mkF m 9 #[.val (.int p0), .val (.int p1), .val (.int p2), .val (.int p3), .val (.int z1), .unset, .unset, .unset, .unset, .unset, .unset, .unset, .unset, .unset, .unset] [(.int p1)]))
  refine own_go (fun _ k => X0.ldcInt hx hown (mvT hZ (hw _ (List.mem_of_getElem? (i := 1) rfl))) (g := (mkF m 9 #[.val (.int p0), .val (.int p1), .val (.int p2), .val (.int p3), .val (.int z1), .unset, .unset, .unset, .unset, .unset, .unset, .unset, .unset, .unset, .unset] [(.int p1)])) rfl (hb hby at_9) _ k) ?_
  show own_Fin _ _ _ _ _ _ _ (s₁.setTop (mkF m 11 #[.val (.int p0), .val (.int p1), .val (.int p2), .val (.int p3), .val (.int z1), .unset, .unset, .unset, .unset, .unset, .unset, .unset, .unset, .unset, .unset] [(.int (1073741823 : Int32)), (.int p1)]))
  refine own_go (fun _ k => XS.iand X0.here hx rfl (hb hby at_11) rfl k) ?_
  show own_Fin _ _ _ _ _ _ _ (s₁.setTop (mkF m 12 #[.val (.int p0), .val (.int p1), .val (.int p2), .val (.int p3), .val (.int z1), .unset, .unset, .unset, .unset, .unset, .unset, .unset, .unset, .unset, .unset] [(.int (p1 &&& (1073741823 : Int32)))]))
  refine own_go (fun _ k => XS.istore X0.here hx rfl (hb hby at_12) rfl (l' := #[.val (.int p0), .val (.int p1), .val (.int p2), .val (.int p3), .val (.int z1), .val (.int (p1 &&& (1073741823 : Int32))), .unset, .unset, .unset, .unset, .unset, .unset, .unset, .unset, .unset]) rfl k) ?_
  show own_Fin _ _ _ _ _ _ _ (s₁.setTop (mkF m 14 #[.val (.int p0), .val (.int p1), .val (.int p2), .val (.int p3), .val (.int z1), .val (.int (p1 &&& (1073741823 : Int32))), .unset, .unset, .unset, .unset, .unset, .unset, .unset, .unset, .unset] []))
  refine own_go (fun _ k => XS.iloadN X0.here hx rfl (hb hby at_14) rfl k) ?_
  show own_Fin _ _ _ _ _ _ _ (s₁.setTop (mkF m 15 #[.val (.int p0), .val (.int p1), .val (.int p2), .val (.int p3), .val (.int z1), .val (.int (p1 &&& (1073741823 : Int32))), .unset, .unset, .unset, .unset, .unset, .unset, .unset, .unset, .unset] [(.int p2)]))
  refine own_go (fun _ k => X0.ldcInt hx hown (mvT hZ (hw _ (List.mem_of_getElem? (i := 0) rfl))) (g := (mkF m 15 #[.val (.int p0), .val (.int p1), .val (.int p2), .val (.int p3), .val (.int z1), .val (.int (p1 &&& (1073741823 : Int32))), .unset, .unset, .unset, .unset, .unset, .unset, .unset, .unset, .unset] [(.int p2)])) rfl (hb hby at_15) _ k) ?_
  show own_Fin _ _ _ _ _ _ _ (s₁.setTop (mkF m 17 #[.val (.int p0), .val (.int p1), .val (.int p2), .val (.int p3), .val (.int z1), .val (.int (p1 &&& (1073741823 : Int32))), .unset, .unset, .unset, .unset, .unset, .unset, .unset, .unset, .unset] [(.int (2147483647 : Int32)), (.int p2)]))
  refine own_go (fun _ k => XS.iand X0.here hx rfl (hb hby at_17) rfl k) ?_
  show own_Fin _ _ _ _ _ _ _ (s₁.setTop (mkF m 18 #[.val (.int p0), .val (.int p1), .val (.int p2), .val (.int p3), .val (.int z1), .val (.int (p1 &&& (1073741823 : Int32))), .unset, .unset, .unset, .unset, .unset, .unset, .unset, .unset, .unset] [(.int (p2 &&& (2147483647 : Int32)))]))
  refine own_go (fun _ k => XS.iconst X0.here hx rfl (hb hby at_18) k) ?_
  show own_Fin _ _ _ _ _ _ _ (s₁.setTop (mkF m 19 #[.val (.int p0), .val (.int p1), .val (.int p2), .val (.int p3), .val (.int z1), .val (.int (p1 &&& (1073741823 : Int32))), .unset, .unset, .unset, .unset, .unset, .unset, .unset, .unset, .unset] [(.int (3 : Int32)), (.int (p2 &&& (2147483647 : Int32)))]))
  refine own_go (fun _ k => own_irem X0.here hx rfl (hb hby at_19) rfl (by decide) k) ?_
  show own_Fin _ _ _ _ _ _ _ (s₁.setTop (mkF m 20 #[.val (.int p0), .val (.int p1), .val (.int p2), .val (.int p3), .val (.int z1), .val (.int (p1 &&& (1073741823 : Int32))), .unset, .unset, .unset, .unset, .unset, .unset, .unset, .unset, .unset] [(.int ((p2 &&& (2147483647 : Int32)) % (3 : Int32)))]))
  refine own_go (fun _ k => XS.istore X0.here hx rfl (hb hby at_20) rfl (l' := #[.val (.int p0), .val (.int p1), .val (.int p2), .val (.int p3), .val (.int z1), .val (.int (p1 &&& (1073741823 : Int32))), .val (.int ((p2 &&& (2147483647 : Int32)) % (3 : Int32))), .unset, .unset, .unset, .unset, .unset, .unset, .unset, .unset]) rfl k) ?_
  show own_Fin _ _ _ _ _ _ _ (s₁.setTop (mkF m 22 #[.val (.int p0), .val (.int p1), .val (.int p2), .val (.int p3), .val (.int z1), .val (.int (p1 &&& (1073741823 : Int32))), .val (.int ((p2 &&& (2147483647 : Int32)) % (3 : Int32))), .unset, .unset, .unset, .unset, .unset, .unset, .unset, .unset] []))
  generalize hz2 : ((p2 &&& (2147483647 : Int32)) % (3 : Int32)) = z2
  show own_Fin _ _ _ _ _ _ _ (s₁.setTop (mkF m 22 #[.val (.int p0), .val (.int p1), .val (.int p2), .val (.int p3), .val (.int z1), .val (.int (p1 &&& (1073741823 : Int32))), .val (.int z2), .unset, .unset, .unset, .unset, .unset, .unset, .unset, .unset] []))
  refine own_go (fun _ k => XS.iloadN X0.here hx rfl (hb hby at_22) rfl k) ?_
  show own_Fin _ _ _ _ _ _ _ (s₁.setTop (mkF m 23 #[.val (.int p0), .val (.int p1), .val (.int p2), .val (.int p3), .val (.int z1), .val (.int (p1 &&& (1073741823 : Int32))), .val (.int z2), .unset, .unset, .unset, .unset, .unset, .unset, .unset, .unset] [(.int p3)]))
  refine own_go (fun _ k => X0.ldcInt hx hown (mvT hZ (hw _ (List.mem_of_getElem? (i := 1) rfl))) (g := (mkF m 23 #[.val (.int p0), .val (.int p1), .val (.int p2), .val (.int p3), .val (.int z1), .val (.int (p1 &&& (1073741823 : Int32))), .val (.int z2), .unset, .unset, .unset, .unset, .unset, .unset, .unset, .unset] [(.int p3)])) rfl (hb hby at_23) _ k) ?_
  show own_Fin _ _ _ _ _ _ _ (s₁.setTop (mkF m 25 #[.val (.int p0), .val (.int p1), .val (.int p2), .val (.int p3), .val (.int z1), .val (.int (p1 &&& (1073741823 : Int32))), .val (.int z2), .unset, .unset, .unset, .unset, .unset, .unset, .unset, .unset] [(.int (1073741823 : Int32)), (.int p3)]))
  refine own_go (fun _ k => XS.iand X0.here hx rfl (hb hby at_25) rfl k) ?_
  show own_Fin _ _ _ _ _ _ _ (s₁.setTop (mkF m 26 #[.val (.int p0), .val (.int p1), .val (.int p2), .val (.int p3), .val (.int z1), .val (.int (p1 &&& (1073741823 : Int32))), .val (.int z2), .unset, .unset, .unset, .unset, .unset, .unset, .unset, .unset] [(.int (p3 &&& (1073741823 : Int32)))]))
  refine own_go (fun _ k => XS.istore X0.here hx rfl (hb hby at_26) rfl (l' := #[.val (.int p0), .val (.int p1), .val (.int p2), .val (.int p3), .val (.int z1), .val (.int (p1 &&& (1073741823 : Int32))), .val (.int z2), .val (.int (p3 &&& (1073741823 : Int32))), .unset, .unset, .unset, .unset, .unset, .unset, .unset]) rfl k) ?_
  show own_Fin _ _ _ _ _ _ _ (s₁.setTop (mkF m 28 #[.val (.int p0), .val (.int p1), .val (.int p2), .val (.int p3), .val (.int z1), .val (.int (p1 &&& (1073741823 : Int32))), .val (.int z2), .val (.int (p3 &&& (1073741823 : Int32))), .unset, .unset, .unset, .unset, .unset, .unset, .unset] []))
  refine own_go (fun _ k => XS.iload X0.here hx rfl (hb hby at_28) rfl k) ?_
  show own_Fin _ _ _ _ _ _ _ (s₁.setTop (mkF m 30 #[.val (.int p0), .val (.int p1), .val (.int p2), .val (.int p3), .val (.int z1), .val (.int (p1 &&& (1073741823 : Int32))), .val (.int z2), .val (.int (p3 &&& (1073741823 : Int32))), .unset, .unset, .unset, .unset, .unset, .unset, .unset] [(.int z1)]))
  refine own_go (fun _ k => XS.iload X0.here hx rfl (hb hby at_30) rfl k) ?_
  show own_Fin _ _ _ _ _ _ _ (s₁.setTop (mkF m 32 #[.val (.int p0), .val (.int p1), .val (.int p2), .val (.int p3), .val (.int z1), .val (.int (p1 &&& (1073741823 : Int32))), .val (.int z2), .val (.int (p3 &&& (1073741823 : Int32))), .unset, .unset, .unset, .unset, .unset, .unset, .unset] [(.int (p1 &&& (1073741823 : Int32))), (.int z1)]))
  obtain ⟨_, _, ⟨T3, L3, k3, n3⟩, -, X3, ⟨Lc3, hQ3, l3, y3, z3⟩, st3⟩ := Jvm.LawKit.callS X0 hx (y := (⟨"com/example/blinkset/blinkset/TextPositionIsBeforePinLaw", "build", "(II)Lcom/example/blinkset/blinkset/TextPosition;"⟩ : MethodName)) hown (mvT hZ (hw _ (List.mem_of_getElem? (i := 2) rfl))) (mvT hZ (hw _ (List.mem_of_getElem? (i := 3) rfl))) (mvT hZ (hw _ (List.mem_of_getElem? (i := 4) rfl))) (mvT hZ (hw _ (List.mem_of_getElem? (i := 5) rfl))) (by decide) (backOf (W := 0) (rm1 l Z a0 hw [] z1 (p1 &&& (1073741823 : Int32)) h0 n0 Z0) hZ (hw _ (List.mem_of_getElem? (i := 5) rfl)) (hw _ (List.mem_of_getElem? (i := 4) rfl)) (by decide) (by decide)) (g := (mkF m 32 #[.val (.int p0), .val (.int p1), .val (.int p2), .val (.int p3), .val (.int z1), .val (.int (p1 &&& (1073741823 : Int32))), .val (.int z2), .val (.int (p3 &&& (1073741823 : Int32))), .unset, .unset, .unset, .unset, .unset, .unset, .unset] [(.int (p1 &&& (1073741823 : Int32))), (.int z1)])) rfl (by rw [hml]; rfl) (argsL := [(.int z1), (.int (p1 &&& (1073741823 : Int32)))]) (rest := []) (lenOf own_pd106 rfl) rfl (by show 2 * 0 + _ ≤ _; exact Nat.le_of_eq rfl) (hb hby at_32) (fun _ _ => ⟨rfl, e0, (by decide : 0 + 1 ≤ _), (by decide : 0 + 4 ≤ _)⟩)
  dsimp only [Pt.U, Pt.locs, Pt.cells, Pt.slots] at X3 l3 y3 z3 st3 hQ3
  replace y3 : 1 = k3 := y3.symm
  replace z3 : 4 = n3 := z3.symm
  subst y3 z3
  obtain ⟨b3rb, rfl, N3q, Kq3, szq_b3rb, E_b3rb_3, F_line_b3rb_3, F_column_b3rb_3, F_afterCarriageReturn_b3rb_3, F_afterHighSurrogate_b3rb_3⟩ := hQ3
  have N3 : Fr n0 L3 := by rw [l3]; exact Fr.app N0 N3q
  have ge_b3rb : n0 ≤ b3rb := Nat.le_trans Z0 szq_b3rb
  have Z3 : n0 ≤ T3.heap.size := Nat.le_trans Z0 Kq3.1
  refine own_go (fun tg k => st3 tg k) ?_
  show own_Fin _ _ _ _ _ _ _ (T3.setTop (mkF m 35 #[.val (.int p0), .val (.int p1), .val (.int p2), .val (.int p3), .val (.int z1), .val (.int (p1 &&& (1073741823 : Int32))), .val (.int z2), .val (.int (p3 &&& (1073741823 : Int32))), .unset, .unset, .unset, .unset, .unset, .unset, .unset] [(.ref b3rb)]))
  refine own_go (fun _ k => XS.astore X3.here hx rfl (hb hby at_35) rfl rfl (l' := #[.val (.int p0), .val (.int p1), .val (.int p2), .val (.int p3), .val (.int z1), .val (.int (p1 &&& (1073741823 : Int32))), .val (.int z2), .val (.int (p3 &&& (1073741823 : Int32))), .val (.ref b3rb), .unset, .unset, .unset, .unset, .unset, .unset]) rfl k) ?_
  show own_Fin _ _ _ _ _ _ _ (T3.setTop (mkF m 37 #[.val (.int p0), .val (.int p1), .val (.int p2), .val (.int p3), .val (.int z1), .val (.int (p1 &&& (1073741823 : Int32))), .val (.int z2), .val (.int (p3 &&& (1073741823 : Int32))), .val (.ref b3rb), .unset, .unset, .unset, .unset, .unset, .unset] []))
  refine own_go (fun _ k => XS.iload X3.here hx rfl (hb hby at_37) rfl k) ?_
  show own_Fin _ _ _ _ _ _ _ (T3.setTop (mkF m 39 #[.val (.int p0), .val (.int p1), .val (.int p2), .val (.int p3), .val (.int z1), .val (.int (p1 &&& (1073741823 : Int32))), .val (.int z2), .val (.int (p3 &&& (1073741823 : Int32))), .val (.ref b3rb), .unset, .unset, .unset, .unset, .unset, .unset] [(.int z2)]))
  refine own_go (fun _ k => XS.iload X3.here hx rfl (hb hby at_39) rfl k) ?_
  show own_Fin _ _ _ _ _ _ _ (T3.setTop (mkF m 41 #[.val (.int p0), .val (.int p1), .val (.int p2), .val (.int p3), .val (.int z1), .val (.int (p1 &&& (1073741823 : Int32))), .val (.int z2), .val (.int (p3 &&& (1073741823 : Int32))), .val (.ref b3rb), .unset, .unset, .unset, .unset, .unset, .unset] [(.int (p3 &&& (1073741823 : Int32))), (.int z2)]))
  obtain ⟨_, _, ⟨T4, L4, k4, n4⟩, -, X4, ⟨Lc4, hQ4, l4, y4, z4⟩, st4⟩ := Jvm.LawKit.callS X3 hx (y := (⟨"com/example/blinkset/blinkset/TextPositionIsBeforePinLaw", "build", "(II)Lcom/example/blinkset/blinkset/TextPosition;"⟩ : MethodName)) hown (mvT hZ (hw _ (List.mem_of_getElem? (i := 2) rfl))) (mvT hZ (hw _ (List.mem_of_getElem? (i := 3) rfl))) (mvT hZ (hw _ (List.mem_of_getElem? (i := 4) rfl))) (mvT hZ (hw _ (List.mem_of_getElem? (i := 5) rfl))) (by decide) (backOf (W := 0) (rm1 l Z a0 hw [] z2 (p3 &&& (1073741823 : Int32)) T3.heap n0 Z3) hZ (hw _ (List.mem_of_getElem? (i := 5) rfl)) (hw _ (List.mem_of_getElem? (i := 4) rfl)) (by decide) (by decide)) (g := (mkF m 41 #[.val (.int p0), .val (.int p1), .val (.int p2), .val (.int p3), .val (.int z1), .val (.int (p1 &&& (1073741823 : Int32))), .val (.int z2), .val (.int (p3 &&& (1073741823 : Int32))), .val (.ref b3rb), .unset, .unset, .unset, .unset, .unset, .unset] [(.int (p3 &&& (1073741823 : Int32))), (.int z2)])) rfl (by rw [hml]; rfl) (argsL := [(.int z2), (.int (p3 &&& (1073741823 : Int32)))]) (rest := []) (lenOf own_pd106 rfl) rfl (by show 2 * 0 + _ ≤ _; exact Nat.le_of_eq rfl) (hb hby at_41) (fun _ _ => ⟨rfl, rfl, (by decide : 1 + 1 ≤ _), (by decide : 4 + 4 ≤ _)⟩)
  dsimp only [Pt.U, Pt.locs, Pt.cells, Pt.slots] at X4 l4 y4 z4 st4 hQ4
  replace y4 : 2 = k4 := y4.symm
  replace z4 : 8 = n4 := z4.symm
  subst y4 z4
  obtain ⟨b4rb, rfl, N4q, Kq4, szq_b4rb, E_b4rb_4, F_line_b4rb_4, F_column_b4rb_4, F_afterCarriageReturn_b4rb_4, F_afterHighSurrogate_b4rb_4⟩ := hQ4
  have N4 : Fr n0 L4 := by rw [l4]; exact Fr.app N3 N4q
  have ne_b3rb_b4rb : b3rb ≠ b4rb := Nat.ne_of_lt (Nat.lt_of_lt_of_le E_b3rb_3.lt szq_b4rb)
  have ge_b4rb : n0 ≤ b4rb := Nat.le_trans Z3 szq_b4rb
  have E_b3rb_4 := E_b3rb_3.keep Kq4
  have F_line_b3rb_4 := F_line_b3rb_3.keep Kq4 nin0
  have F_column_b3rb_4 := F_column_b3rb_3.keep Kq4 nin0
  have F_afterCarriageReturn_b3rb_4 := F_afterCarriageReturn_b3rb_3.keep Kq4 nin0
  have F_afterHighSurrogate_b3rb_4 := F_afterHighSurrogate_b3rb_3.keep Kq4 nin0
  have Z4 : n0 ≤ T4.heap.size := Nat.le_trans Z3 Kq4.1
  refine own_go (fun tg k => st4 tg k) ?_
  show own_Fin _ _ _ _ _ _ _ (T4.setTop (mkF m 44 #[.val (.int p0), .val (.int p1), .val (.int p2), .val (.int p3), .val (.int z1), .val (.int (p1 &&& (1073741823 : Int32))), .val (.int z2), .val (.int (p3 &&& (1073741823 : Int32))), .val (.ref b3rb), .unset, .unset, .unset, .unset, .unset, .unset] [(.ref b4rb)]))
  refine own_go (fun _ k => XS.astore X4.here hx rfl (hb hby at_44) rfl rfl (l' := #[.val (.int p0), .val (.int p1), .val (.int p2), .val (.int p3), .val (.int z1), .val (.int (p1 &&& (1073741823 : Int32))), .val (.int z2), .val (.int (p3 &&& (1073741823 : Int32))), .val (.ref b3rb), .val (.ref b4rb), .unset, .unset, .unset, .unset, .unset]) rfl k) ?_
  show own_Fin _ _ _ _ _ _ _ (T4.setTop (mkF m 46 #[.val (.int p0), .val (.int p1), .val (.int p2), .val (.int p3), .val (.int z1), .val (.int (p1 &&& (1073741823 : Int32))), .val (.int z2), .val (.int (p3 &&& (1073741823 : Int32))), .val (.ref b3rb), .val (.ref b4rb), .unset, .unset, .unset, .unset, .unset] []))
  refine own_go (fun _ k => XS.iconst X4.here hx rfl (hb hby at_46) k) ?_
  show own_Fin _ _ _ _ _ _ _ (T4.setTop (mkF m 47 #[.val (.int p0), .val (.int p1), .val (.int p2), .val (.int p3), .val (.int z1), .val (.int (p1 &&& (1073741823 : Int32))), .val (.int z2), .val (.int (p3 &&& (1073741823 : Int32))), .val (.ref b3rb), .val (.ref b4rb), .unset, .unset, .unset, .unset, .unset] [(.int (1 : Int32))]))
  refine own_go (fun _ k => XS.iload X4.here hx rfl (hb hby at_47) rfl k) ?_
  show own_Fin _ _ _ _ _ _ _ (T4.setTop (mkF m 49 #[.val (.int p0), .val (.int p1), .val (.int p2), .val (.int p3), .val (.int z1), .val (.int (p1 &&& (1073741823 : Int32))), .val (.int z2), .val (.int (p3 &&& (1073741823 : Int32))), .val (.ref b3rb), .val (.ref b4rb), .unset, .unset, .unset, .unset, .unset] [(.int z1), (.int (1 : Int32))]))
  refine own_go (fun _ k => XS.iadd X4.here hx rfl (hb hby at_49) rfl k) ?_
  show own_Fin _ _ _ _ _ _ _ (T4.setTop (mkF m 50 #[.val (.int p0), .val (.int p1), .val (.int p2), .val (.int p3), .val (.int z1), .val (.int (p1 &&& (1073741823 : Int32))), .val (.int z2), .val (.int (p3 &&& (1073741823 : Int32))), .val (.ref b3rb), .val (.ref b4rb), .unset, .unset, .unset, .unset, .unset] [(.int ((1 : Int32) + z1))]))
  refine own_go (fun _ k => XS.i2l X4.here hx rfl (hb hby at_50) rfl k) ?_
  show own_Fin _ _ _ _ _ _ _ (T4.setTop (mkF m 51 #[.val (.int p0), .val (.int p1), .val (.int p2), .val (.int p3), .val (.int z1), .val (.int (p1 &&& (1073741823 : Int32))), .val (.int z2), .val (.int (p3 &&& (1073741823 : Int32))), .val (.ref b3rb), .val (.ref b4rb), .unset, .unset, .unset, .unset, .unset] [(.long (((1 : Int32) + z1).toInt64))]))
  refine own_go (fun _ k => XS.bipush X4.here hx rfl (hb hby at_51) k) ?_
  show own_Fin _ _ _ _ _ _ _ (T4.setTop (mkF m 53 #[.val (.int p0), .val (.int p1), .val (.int p2), .val (.int p3), .val (.int z1), .val (.int (p1 &&& (1073741823 : Int32))), .val (.int z2), .val (.int (p3 &&& (1073741823 : Int32))), .val (.ref b3rb), .val (.ref b4rb), .unset, .unset, .unset, .unset, .unset] [(.int (31 : Int32)), (.long (((1 : Int32) + z1).toInt64))]))
  refine own_go (fun _ k => XS.lshl X4.here hx rfl (hb hby at_53) rfl k) ?_
  show own_Fin _ _ _ _ _ _ _ (T4.setTop (mkF m 54 #[.val (.int p0), .val (.int p1), .val (.int p2), .val (.int p3), .val (.int z1), .val (.int (p1 &&& (1073741823 : Int32))), .val (.int z2), .val (.int (p3 &&& (1073741823 : Int32))), .val (.ref b3rb), .val (.ref b4rb), .unset, .unset, .unset, .unset, .unset] [(.long (own_lshl (((1 : Int32) + z1).toInt64) (31 : Int32)))]))
  refine own_go (fun _ k => XS.iconst X4.here hx rfl (hb hby at_54) k) ?_
  show own_Fin _ _ _ _ _ _ _ (T4.setTop (mkF m 55 #[.val (.int p0), .val (.int p1), .val (.int p2), .val (.int p3), .val (.int z1), .val (.int (p1 &&& (1073741823 : Int32))), .val (.int z2), .val (.int (p3 &&& (1073741823 : Int32))), .val (.ref b3rb), .val (.ref b4rb), .unset, .unset, .unset, .unset, .unset] [(.int (1 : Int32)), (.long (own_lshl (((1 : Int32) + z1).toInt64) (31 : Int32)))]))
  refine own_go (fun _ k => XS.iload X4.here hx rfl (hb hby at_55) rfl k) ?_
  show own_Fin _ _ _ _ _ _ _ (T4.setTop (mkF m 57 #[.val (.int p0), .val (.int p1), .val (.int p2), .val (.int p3), .val (.int z1), .val (.int (p1 &&& (1073741823 : Int32))), .val (.int z2), .val (.int (p3 &&& (1073741823 : Int32))), .val (.ref b3rb), .val (.ref b4rb), .unset, .unset, .unset, .unset, .unset] [(.int (p1 &&& (1073741823 : Int32))), (.int (1 : Int32)), (.long (own_lshl (((1 : Int32) + z1).toInt64) (31 : Int32)))]))
  refine own_go (fun _ k => XS.iadd X4.here hx rfl (hb hby at_57) rfl k) ?_
  show own_Fin _ _ _ _ _ _ _ (T4.setTop (mkF m 58 #[.val (.int p0), .val (.int p1), .val (.int p2), .val (.int p3), .val (.int z1), .val (.int (p1 &&& (1073741823 : Int32))), .val (.int z2), .val (.int (p3 &&& (1073741823 : Int32))), .val (.ref b3rb), .val (.ref b4rb), .unset, .unset, .unset, .unset, .unset] [(.int ((1 : Int32) + (p1 &&& (1073741823 : Int32)))), (.long (own_lshl (((1 : Int32) + z1).toInt64) (31 : Int32)))]))
  refine own_go (fun _ k => XS.i2l X4.here hx rfl (hb hby at_58) rfl k) ?_
  show own_Fin _ _ _ _ _ _ _ (T4.setTop (mkF m 59 #[.val (.int p0), .val (.int p1), .val (.int p2), .val (.int p3), .val (.int z1), .val (.int (p1 &&& (1073741823 : Int32))), .val (.int z2), .val (.int (p3 &&& (1073741823 : Int32))), .val (.ref b3rb), .val (.ref b4rb), .unset, .unset, .unset, .unset, .unset] [(.long (((1 : Int32) + (p1 &&& (1073741823 : Int32))).toInt64)), (.long (own_lshl (((1 : Int32) + z1).toInt64) (31 : Int32)))]))
  refine own_go (fun _ k => XS.ladd X4.here hx rfl (hb hby at_59) rfl k) ?_
  show own_Fin _ _ _ _ _ _ _ (T4.setTop (mkF m 60 #[.val (.int p0), .val (.int p1), .val (.int p2), .val (.int p3), .val (.int z1), .val (.int (p1 &&& (1073741823 : Int32))), .val (.int z2), .val (.int (p3 &&& (1073741823 : Int32))), .val (.ref b3rb), .val (.ref b4rb), .unset, .unset, .unset, .unset, .unset] [(.long ((own_lshl (((1 : Int32) + z1).toInt64) (31 : Int32)) + (((1 : Int32) + (p1 &&& (1073741823 : Int32))).toInt64)))]))
  refine own_go (fun _ k => XS.lstore X4.here hx rfl (hb hby at_60) rfl (l' := #[.val (.int p0), .val (.int p1), .val (.int p2), .val (.int p3), .val (.int z1), .val (.int (p1 &&& (1073741823 : Int32))), .val (.int z2), .val (.int (p3 &&& (1073741823 : Int32))), .val (.ref b3rb), .val (.ref b4rb), .val (.long ((own_lshl (((1 : Int32) + z1).toInt64) (31 : Int32)) + (((1 : Int32) + (p1 &&& (1073741823 : Int32))).toInt64))), .second, .unset, .unset, .unset]) rfl k) ?_
  show own_Fin _ _ _ _ _ _ _ (T4.setTop (mkF m 62 #[.val (.int p0), .val (.int p1), .val (.int p2), .val (.int p3), .val (.int z1), .val (.int (p1 &&& (1073741823 : Int32))), .val (.int z2), .val (.int (p3 &&& (1073741823 : Int32))), .val (.ref b3rb), .val (.ref b4rb), .val (.long ((own_lshl (((1 : Int32) + z1).toInt64) (31 : Int32)) + (((1 : Int32) + (p1 &&& (1073741823 : Int32))).toInt64))), .second, .unset, .unset, .unset] []))
  generalize hz5 : ((own_lshl (((1 : Int32) + z1).toInt64) (31 : Int32)) + (((1 : Int32) + (p1 &&& (1073741823 : Int32))).toInt64)) = z5
  show own_Fin _ _ _ _ _ _ _ (T4.setTop (mkF m 62 #[.val (.int p0), .val (.int p1), .val (.int p2), .val (.int p3), .val (.int z1), .val (.int (p1 &&& (1073741823 : Int32))), .val (.int z2), .val (.int (p3 &&& (1073741823 : Int32))), .val (.ref b3rb), .val (.ref b4rb), .val (.long z5), .second, .unset, .unset, .unset] []))
  refine own_go (fun _ k => XS.iconst X4.here hx rfl (hb hby at_62) k) ?_
  show own_Fin _ _ _ _ _ _ _ (T4.setTop (mkF m 63 #[.val (.int p0), .val (.int p1), .val (.int p2), .val (.int p3), .val (.int z1), .val (.int (p1 &&& (1073741823 : Int32))), .val (.int z2), .val (.int (p3 &&& (1073741823 : Int32))), .val (.ref b3rb), .val (.ref b4rb), .val (.long z5), .second, .unset, .unset, .unset] [(.int (1 : Int32))]))
  refine own_go (fun _ k => XS.iload X4.here hx rfl (hb hby at_63) rfl k) ?_
  show own_Fin _ _ _ _ _ _ _ (T4.setTop (mkF m 65 #[.val (.int p0), .val (.int p1), .val (.int p2), .val (.int p3), .val (.int z1), .val (.int (p1 &&& (1073741823 : Int32))), .val (.int z2), .val (.int (p3 &&& (1073741823 : Int32))), .val (.ref b3rb), .val (.ref b4rb), .val (.long z5), .second, .unset, .unset, .unset] [(.int z2), (.int (1 : Int32))]))
  refine own_go (fun _ k => XS.iadd X4.here hx rfl (hb hby at_65) rfl k) ?_
  show own_Fin _ _ _ _ _ _ _ (T4.setTop (mkF m 66 #[.val (.int p0), .val (.int p1), .val (.int p2), .val (.int p3), .val (.int z1), .val (.int (p1 &&& (1073741823 : Int32))), .val (.int z2), .val (.int (p3 &&& (1073741823 : Int32))), .val (.ref b3rb), .val (.ref b4rb), .val (.long z5), .second, .unset, .unset, .unset] [(.int ((1 : Int32) + z2))]))
  refine own_go (fun _ k => XS.i2l X4.here hx rfl (hb hby at_66) rfl k) ?_
  show own_Fin _ _ _ _ _ _ _ (T4.setTop (mkF m 67 #[.val (.int p0), .val (.int p1), .val (.int p2), .val (.int p3), .val (.int z1), .val (.int (p1 &&& (1073741823 : Int32))), .val (.int z2), .val (.int (p3 &&& (1073741823 : Int32))), .val (.ref b3rb), .val (.ref b4rb), .val (.long z5), .second, .unset, .unset, .unset] [(.long (((1 : Int32) + z2).toInt64))]))
  refine own_go (fun _ k => XS.bipush X4.here hx rfl (hb hby at_67) k) ?_
  show own_Fin _ _ _ _ _ _ _ (T4.setTop (mkF m 69 #[.val (.int p0), .val (.int p1), .val (.int p2), .val (.int p3), .val (.int z1), .val (.int (p1 &&& (1073741823 : Int32))), .val (.int z2), .val (.int (p3 &&& (1073741823 : Int32))), .val (.ref b3rb), .val (.ref b4rb), .val (.long z5), .second, .unset, .unset, .unset] [(.int (31 : Int32)), (.long (((1 : Int32) + z2).toInt64))]))
  refine own_go (fun _ k => XS.lshl X4.here hx rfl (hb hby at_69) rfl k) ?_
  show own_Fin _ _ _ _ _ _ _ (T4.setTop (mkF m 70 #[.val (.int p0), .val (.int p1), .val (.int p2), .val (.int p3), .val (.int z1), .val (.int (p1 &&& (1073741823 : Int32))), .val (.int z2), .val (.int (p3 &&& (1073741823 : Int32))), .val (.ref b3rb), .val (.ref b4rb), .val (.long z5), .second, .unset, .unset, .unset] [(.long (own_lshl (((1 : Int32) + z2).toInt64) (31 : Int32)))]))
  refine own_go (fun _ k => XS.iconst X4.here hx rfl (hb hby at_70) k) ?_
  show own_Fin _ _ _ _ _ _ _ (T4.setTop (mkF m 71 #[.val (.int p0), .val (.int p1), .val (.int p2), .val (.int p3), .val (.int z1), .val (.int (p1 &&& (1073741823 : Int32))), .val (.int z2), .val (.int (p3 &&& (1073741823 : Int32))), .val (.ref b3rb), .val (.ref b4rb), .val (.long z5), .second, .unset, .unset, .unset] [(.int (1 : Int32)), (.long (own_lshl (((1 : Int32) + z2).toInt64) (31 : Int32)))]))
  refine own_go (fun _ k => XS.iload X4.here hx rfl (hb hby at_71) rfl k) ?_
  show own_Fin _ _ _ _ _ _ _ (T4.setTop (mkF m 73 #[.val (.int p0), .val (.int p1), .val (.int p2), .val (.int p3), .val (.int z1), .val (.int (p1 &&& (1073741823 : Int32))), .val (.int z2), .val (.int (p3 &&& (1073741823 : Int32))), .val (.ref b3rb), .val (.ref b4rb), .val (.long z5), .second, .unset, .unset, .unset] [(.int (p3 &&& (1073741823 : Int32))), (.int (1 : Int32)), (.long (own_lshl (((1 : Int32) + z2).toInt64) (31 : Int32)))]))
  refine own_go (fun _ k => XS.iadd X4.here hx rfl (hb hby at_73) rfl k) ?_
  show own_Fin _ _ _ _ _ _ _ (T4.setTop (mkF m 74 #[.val (.int p0), .val (.int p1), .val (.int p2), .val (.int p3), .val (.int z1), .val (.int (p1 &&& (1073741823 : Int32))), .val (.int z2), .val (.int (p3 &&& (1073741823 : Int32))), .val (.ref b3rb), .val (.ref b4rb), .val (.long z5), .second, .unset, .unset, .unset] [(.int ((1 : Int32) + (p3 &&& (1073741823 : Int32)))), (.long (own_lshl (((1 : Int32) + z2).toInt64) (31 : Int32)))]))
  refine own_go (fun _ k => XS.i2l X4.here hx rfl (hb hby at_74) rfl k) ?_
  show own_Fin _ _ _ _ _ _ _ (T4.setTop (mkF m 75 #[.val (.int p0), .val (.int p1), .val (.int p2), .val (.int p3), .val (.int z1), .val (.int (p1 &&& (1073741823 : Int32))), .val (.int z2), .val (.int (p3 &&& (1073741823 : Int32))), .val (.ref b3rb), .val (.ref b4rb), .val (.long z5), .second, .unset, .unset, .unset] [(.long (((1 : Int32) + (p3 &&& (1073741823 : Int32))).toInt64)), (.long (own_lshl (((1 : Int32) + z2).toInt64) (31 : Int32)))]))
  refine own_go (fun _ k => XS.ladd X4.here hx rfl (hb hby at_75) rfl k) ?_
  show own_Fin _ _ _ _ _ _ _ (T4.setTop (mkF m 76 #[.val (.int p0), .val (.int p1), .val (.int p2), .val (.int p3), .val (.int z1), .val (.int (p1 &&& (1073741823 : Int32))), .val (.int z2), .val (.int (p3 &&& (1073741823 : Int32))), .val (.ref b3rb), .val (.ref b4rb), .val (.long z5), .second, .unset, .unset, .unset] [(.long ((own_lshl (((1 : Int32) + z2).toInt64) (31 : Int32)) + (((1 : Int32) + (p3 &&& (1073741823 : Int32))).toInt64)))]))
  refine own_go (fun _ k => XS.lstore X4.here hx rfl (hb hby at_76) rfl (l' := #[.val (.int p0), .val (.int p1), .val (.int p2), .val (.int p3), .val (.int z1), .val (.int (p1 &&& (1073741823 : Int32))), .val (.int z2), .val (.int (p3 &&& (1073741823 : Int32))), .val (.ref b3rb), .val (.ref b4rb), .val (.long z5), .second, .val (.long ((own_lshl (((1 : Int32) + z2).toInt64) (31 : Int32)) + (((1 : Int32) + (p3 &&& (1073741823 : Int32))).toInt64))), .second, .unset]) rfl k) ?_
  show own_Fin _ _ _ _ _ _ _ (T4.setTop (mkF m 78 #[.val (.int p0), .val (.int p1), .val (.int p2), .val (.int p3), .val (.int z1), .val (.int (p1 &&& (1073741823 : Int32))), .val (.int z2), .val (.int (p3 &&& (1073741823 : Int32))), .val (.ref b3rb), .val (.ref b4rb), .val (.long z5), .second, .val (.long ((own_lshl (((1 : Int32) + z2).toInt64) (31 : Int32)) + (((1 : Int32) + (p3 &&& (1073741823 : Int32))).toInt64))), .second, .unset] []))
  generalize hz6 : ((own_lshl (((1 : Int32) + z2).toInt64) (31 : Int32)) + (((1 : Int32) + (p3 &&& (1073741823 : Int32))).toInt64)) = z6
  show own_Fin _ _ _ _ _ _ _ (T4.setTop (mkF m 78 #[.val (.int p0), .val (.int p1), .val (.int p2), .val (.int p3), .val (.int z1), .val (.int (p1 &&& (1073741823 : Int32))), .val (.int z2), .val (.int (p3 &&& (1073741823 : Int32))), .val (.ref b3rb), .val (.ref b4rb), .val (.long z5), .second, .val (.long z6), .second, .unset] []))
  refine own_go (fun _ k => XS.lload X4.here hx rfl (hb hby at_78) rfl k) ?_
  show own_Fin _ _ _ _ _ _ _ (T4.setTop (mkF m 80 #[.val (.int p0), .val (.int p1), .val (.int p2), .val (.int p3), .val (.int z1), .val (.int (p1 &&& (1073741823 : Int32))), .val (.int z2), .val (.int (p3 &&& (1073741823 : Int32))), .val (.ref b3rb), .val (.ref b4rb), .val (.long z5), .second, .val (.long z6), .second, .unset] [(.long z5)]))
  refine own_go (fun _ k => XS.lload X4.here hx rfl (hb hby at_80) rfl k) ?_
  show own_Fin _ _ _ _ _ _ _ (T4.setTop (mkF m 82 #[.val (.int p0), .val (.int p1), .val (.int p2), .val (.int p3), .val (.int z1), .val (.int (p1 &&& (1073741823 : Int32))), .val (.int z2), .val (.int (p3 &&& (1073741823 : Int32))), .val (.ref b3rb), .val (.ref b4rb), .val (.long z5), .second, .val (.long z6), .second, .unset] [(.long z6), (.long z5)]))
  refine own_go (fun _ k => XS.lcmp X4.here hx rfl (hb hby at_82) rfl k) ?_
  show own_Fin _ _ _ _ _ _ _ (T4.setTop (mkF m 83 #[.val (.int p0), .val (.int p1), .val (.int p2), .val (.int p3), .val (.int z1), .val (.int (p1 &&& (1073741823 : Int32))), .val (.int z2), .val (.int (p3 &&& (1073741823 : Int32))), .val (.ref b3rb), .val (.ref b4rb), .val (.long z5), .second, .val (.long z6), .second, .unset] [(.int (lcmpW z5 z6))]))
  have hk8 : ∀ (T' : State) (L' : List Loc), Stand p l e room_1 s m #[(.int p0), (.int p1), (.int p2), (.int p3)] below meth c T' L' 2 8 → Fr n0 L' → T'.heap = T4.heap → own_Fin p.tables e below s (own_QL (some (.int (own_f0 p0 p1 p2 p3))) n0) 16 128 (T'.setTop (mkF m 91 #[.val (.int p0), .val (.int p1), .val (.int p2), .val (.int p3), .val (.int z1), .val (.int (p1 &&& (1073741823 : Int32))), .val (.int z2), .val (.int (p3 &&& (1073741823 : Int32))), .val (.ref b3rb), .val (.ref b4rb), .val (.long z5), .second, .val (.long z6), .second, .unset] [(.int (if z5 < z6 then (1 : Int32) else (0 : Int32)))])) := by
    intro T9 L9 X9 N9 e9
    generalize hz10 : (if z5 < z6 then (1 : Int32) else (0 : Int32)) = z10
    show own_Fin _ _ _ _ _ _ _ (T9.setTop (mkF m 91 #[.val (.int p0), .val (.int p1), .val (.int p2), .val (.int p3), .val (.int z1), .val (.int (p1 &&& (1073741823 : Int32))), .val (.int z2), .val (.int (p3 &&& (1073741823 : Int32))), .val (.ref b3rb), .val (.ref b4rb), .val (.long z5), .second, .val (.long z6), .second, .unset] [(.int z10)]))
    refine own_go (fun _ k => XS.istore X9.here hx rfl (hb hby at_91) rfl (l' := #[.val (.int p0), .val (.int p1), .val (.int p2), .val (.int p3), .val (.int z1), .val (.int (p1 &&& (1073741823 : Int32))), .val (.int z2), .val (.int (p3 &&& (1073741823 : Int32))), .val (.ref b3rb), .val (.ref b4rb), .val (.long z5), .second, .val (.long z6), .second, .val (.int z10)]) rfl k) ?_
    show own_Fin _ _ _ _ _ _ _ (T9.setTop (mkF m 93 #[.val (.int p0), .val (.int p1), .val (.int p2), .val (.int p3), .val (.int z1), .val (.int (p1 &&& (1073741823 : Int32))), .val (.int z2), .val (.int (p3 &&& (1073741823 : Int32))), .val (.ref b3rb), .val (.ref b4rb), .val (.long z5), .second, .val (.long z6), .second, .val (.int z10)] []))
    refine own_go (fun _ k => XS.aload X9.here hx rfl (hb hby at_93) rfl rfl k) ?_
    show own_Fin _ _ _ _ _ _ _ (T9.setTop (mkF m 95 #[.val (.int p0), .val (.int p1), .val (.int p2), .val (.int p3), .val (.int z1), .val (.int (p1 &&& (1073741823 : Int32))), .val (.int z2), .val (.int (p3 &&& (1073741823 : Int32))), .val (.ref b3rb), .val (.ref b4rb), .val (.long z5), .second, .val (.long z6), .second, .val (.int z10)] [(.ref b3rb)]))
    refine own_go (fun _ k => XS.aload X9.here hx rfl (hb hby at_95) rfl rfl k) ?_
    show own_Fin _ _ _ _ _ _ _ (T9.setTop (mkF m 97 #[.val (.int p0), .val (.int p1), .val (.int p2), .val (.int p3), .val (.int z1), .val (.int (p1 &&& (1073741823 : Int32))), .val (.int z2), .val (.int (p3 &&& (1073741823 : Int32))), .val (.ref b3rb), .val (.ref b4rb), .val (.long z5), .second, .val (.long z6), .second, .val (.int z10)] [(.ref b4rb), (.ref b3rb)]))
    obtain ⟨cq11, kq11, q11a, q11b, q11c⟩ := isOf hZ e9 E_b3rb_4
    obtain ⟨_, _, ⟨T11, L11, k11, n11⟩, -, X11, ⟨Lc11, hQ11, l11, y11, z11⟩, st11⟩ := X9.virtualBack hx (y := (⟨"com/example/blinkset/blinkset/TextPosition", "isBefore", "(Lcom/example/blinkset/blinkset/TextPosition;)Z"⟩ : MethodName)) (z := (⟨"com/example/blinkset/blinkset/TextPosition", "isBefore", "(Lcom/example/blinkset/blinkset/TextPosition;)Z"⟩ : MethodName)) hown (mvT hZ (hw _ (List.mem_of_getElem? (i := 38) rfl))) (mvT hZ (hw _ (List.mem_of_getElem? (i := 39) rfl))) (notFace_of_selects (args := #[]) (mvT hZ (hw _ (List.mem_of_getElem? (i := 41) rfl)))) (mvT hZ (hw _ (List.mem_of_getElem? (i := 41) rfl))) (mvT hZ (hw _ (List.mem_of_getElem? (i := 40) rfl))) (by decide) (backOf (W := 0) (rm7 l Z a0 hw [] b3rb b4rb (own_line z1) (own_col (p1 &&& (1073741823 : Int32))) (own_line z2) (own_col (p3 &&& (1073741823 : Int32))) T4.heap n0 Z4 F_line_b3rb_4 F_column_b3rb_4 F_line_b4rb_4 F_column_b4rb_4) hZ (hw _ (List.mem_of_getElem? (i := 42) rfl)) (hw _ (List.mem_of_getElem? (i := 8) rfl)) (by decide) (by decide)) q11a q11c (g := (mkF m 97 #[.val (.int p0), .val (.int p1), .val (.int p2), .val (.int p3), .val (.int z1), .val (.int (p1 &&& (1073741823 : Int32))), .val (.int z2), .val (.int (p3 &&& (1073741823 : Int32))), .val (.ref b3rb), .val (.ref b4rb), .val (.long z5), .second, .val (.long z6), .second, .val (.int z10)] [(.ref b4rb), (.ref b3rb)])) rfl (by rw [hml]; rfl) (Steps.refl _) (argsL := [(.ref b4rb)]) (rest := []) (lenOf own_pd107 rfl) rfl (by show 2 * 0 + _ ≤ _; exact Nat.le_of_eq rfl) (hb hby at_97) (fun _ _ => ⟨rfl, e9, (by decide : 2 + 0 ≤ _), (by decide : 8 + 0 ≤ _)⟩)
    dsimp only [Pt.U, Pt.locs, Pt.cells, Pt.slots] at X11 l11 y11 z11 st11 hQ11
    replace y11 : 2 = k11 := y11.symm
    replace z11 : 8 = n11 := z11.symm
    subst y11 z11
    obtain ⟨rfl, N11q, e11⟩ := hQ11
    have N11 : Fr n0 L11 := by rw [l11]; exact Fr.app N9 N11q
    refine own_go (fun tg k => st11.trans k) ?_
    show own_Fin _ _ _ _ _ _ _ (T11.setTop (mkF m 100 #[.val (.int p0), .val (.int p1), .val (.int p2), .val (.int p3), .val (.int z1), .val (.int (p1 &&& (1073741823 : Int32))), .val (.int z2), .val (.int (p3 &&& (1073741823 : Int32))), .val (.ref b3rb), .val (.ref b4rb), .val (.long z5), .second, .val (.long z6), .second, .val (.int z10)] [(.int (own_f7 (own_line z1) (own_col (p1 &&& (1073741823 : Int32))) (own_line z2) (own_col (p3 &&& (1073741823 : Int32)))))]))
    refine own_go (fun _ k => XS.iload X11.here hx rfl (hb hby at_100) rfl k) ?_
    show own_Fin _ _ _ _ _ _ _ (T11.setTop (mkF m 102 #[.val (.int p0), .val (.int p1), .val (.int p2), .val (.int p3), .val (.int z1), .val (.int (p1 &&& (1073741823 : Int32))), .val (.int z2), .val (.int (p3 &&& (1073741823 : Int32))), .val (.ref b3rb), .val (.ref b4rb), .val (.long z5), .second, .val (.long z6), .second, .val (.int z10)] [(.int z10), (.int (own_f7 (own_line z1) (own_col (p1 &&& (1073741823 : Int32))) (own_line z2) (own_col (p3 &&& (1073741823 : Int32)))))]))
    by_cases hc12 : (own_f7 (own_line z1) (own_col (p1 &&& (1073741823 : Int32))) (own_line z2) (own_col (p3 &&& (1073741823 : Int32)))) = z10
    · refine own_go (fun _ k => XS.icmpNo X11.here hx rfl (hb hby at_102) rfl (teq hc12).2 k) ?_
      show own_Fin _ _ _ _ _ _ _ (T11.setTop (mkF m 105 #[.val (.int p0), .val (.int p1), .val (.int p2), .val (.int p3), .val (.int z1), .val (.int (p1 &&& (1073741823 : Int32))), .val (.int z2), .val (.int (p3 &&& (1073741823 : Int32))), .val (.ref b3rb), .val (.ref b4rb), .val (.long z5), .second, .val (.long z6), .second, .val (.int z10)] []))
      refine own_go (fun _ k => XS.iconst X11.here hx rfl (hb hby at_105) k) ?_
      show own_Fin _ _ _ _ _ _ _ (T11.setTop (mkF m 106 #[.val (.int p0), .val (.int p1), .val (.int p2), .val (.int p3), .val (.int z1), .val (.int (p1 &&& (1073741823 : Int32))), .val (.int z2), .val (.int (p3 &&& (1073741823 : Int32))), .val (.ref b3rb), .val (.ref b4rb), .val (.long z5), .second, .val (.long z6), .second, .val (.int z10)] [(.int (1 : Int32))]))
      refine own_go (fun _ k => XS.goto X11.here hx rfl (pc0 := 106) (pc' := 110) rfl (hb hby at_106) (by decide) (by decide) k) ?_
      show own_Fin _ _ _ _ _ _ _ (T11.setTop (mkF m 110 #[.val (.int p0), .val (.int p1), .val (.int p2), .val (.int p3), .val (.int z1), .val (.int (p1 &&& (1073741823 : Int32))), .val (.int z2), .val (.int (p3 &&& (1073741823 : Int32))), .val (.ref b3rb), .val (.ref b4rb), .val (.long z5), .second, .val (.long z6), .second, .val (.int z10)] [(.int (1 : Int32))]))
      refine own_ret X11 hx hlk Bd.returns rfl (Or.inl ⟨rfl, by simp, _, rfl⟩) (hb hby at_110) (Nat.le_of_ble_eq_true rfl) (Nat.le_of_ble_eq_true rfl) ?_
      exact ⟨(own_lf_own_f0_1 (p0 := p0) (p1 := p1) (p2 := p2) (p3 := p3) hz1 hz2 hz5 hz6 hz10 hc12), N11, trivial⟩
    · refine own_go (fun _ k => XS.icmpYes X11.here hx rfl (pc0 := 102) (pc' := 109) rfl (hb hby at_102) rfl (feq hc12).2 (by decide) (by decide) k) ?_
      show own_Fin _ _ _ _ _ _ _ (T11.setTop (mkF m 109 #[.val (.int p0), .val (.int p1), .val (.int p2), .val (.int p3), .val (.int z1), .val (.int (p1 &&& (1073741823 : Int32))), .val (.int z2), .val (.int (p3 &&& (1073741823 : Int32))), .val (.ref b3rb), .val (.ref b4rb), .val (.long z5), .second, .val (.long z6), .second, .val (.int z10)] []))
      refine own_go (fun _ k => XS.iconst X11.here hx rfl (hb hby at_109) k) ?_
      show own_Fin _ _ _ _ _ _ _ (T11.setTop (mkF m 110 #[.val (.int p0), .val (.int p1), .val (.int p2), .val (.int p3), .val (.int z1), .val (.int (p1 &&& (1073741823 : Int32))), .val (.int z2), .val (.int (p3 &&& (1073741823 : Int32))), .val (.ref b3rb), .val (.ref b4rb), .val (.long z5), .second, .val (.long z6), .second, .val (.int z10)] [(.int (0 : Int32))]))
      refine own_ret X11 hx hlk Bd.returns rfl (Or.inl ⟨rfl, by simp, _, rfl⟩) (hb hby at_110) (Nat.le_of_ble_eq_true rfl) (Nat.le_of_ble_eq_true rfl) ?_
      exact ⟨(own_lf_own_f0_2 (p0 := p0) (p1 := p1) (p2 := p2) (p3 := p3) hz1 hz2 hz5 hz6 hz10 hc12), N11, trivial⟩
  by_cases hc7 : z5 < z6
  · refine own_go (fun _ k => XS.ifNo X4.here hx rfl (hb hby at_83) rfl ((if0 _ _).trans (tlt ((lw_lt _ _).mpr hc7)).2.1) k) ?_
    show own_Fin _ _ _ _ _ _ _ (T4.setTop (mkF m 86 #[.val (.int p0), .val (.int p1), .val (.int p2), .val (.int p3), .val (.int z1), .val (.int (p1 &&& (1073741823 : Int32))), .val (.int z2), .val (.int (p3 &&& (1073741823 : Int32))), .val (.ref b3rb), .val (.ref b4rb), .val (.long z5), .second, .val (.long z6), .second, .unset] []))
    refine own_go (fun _ k => XS.iconst X4.here hx rfl (hb hby at_86) k) ?_
    show own_Fin _ _ _ _ _ _ _ (T4.setTop (mkF m 87 #[.val (.int p0), .val (.int p1), .val (.int p2), .val (.int p3), .val (.int z1), .val (.int (p1 &&& (1073741823 : Int32))), .val (.int z2), .val (.int (p3 &&& (1073741823 : Int32))), .val (.ref b3rb), .val (.ref b4rb), .val (.long z5), .second, .val (.long z6), .second, .unset] [(.int (1 : Int32))]))
    refine own_go (fun _ k => XS.goto X4.here hx rfl (pc0 := 87) (pc' := 91) rfl (hb hby at_87) (by decide) (by decide) k) ?_
    show own_Fin _ _ _ _ _ _ _ (T4.setTop (mkF m 91 #[.val (.int p0), .val (.int p1), .val (.int p2), .val (.int p3), .val (.int z1), .val (.int (p1 &&& (1073741823 : Int32))), .val (.int z2), .val (.int (p3 &&& (1073741823 : Int32))), .val (.ref b3rb), .val (.ref b4rb), .val (.long z5), .second, .val (.long z6), .second, .unset] [(.int (1 : Int32))]))
    have kj := hk8 T4 _ (own_mono X4 (by decide) (by decide)) N4 rfl
    simpa only [if_pos hc7] using kj
  · refine own_go (fun _ k => XS.ifYes X4.here hx rfl (pc0 := 83) (pc' := 90) rfl (hb hby at_83) rfl ((if0 _ _).trans (flt (mt (lw_lt _ _).mp hc7)).2.1) (by decide) (by decide) k) ?_
    show own_Fin _ _ _ _ _ _ _ (T4.setTop (mkF m 90 #[.val (.int p0), .val (.int p1), .val (.int p2), .val (.int p3), .val (.int z1), .val (.int (p1 &&& (1073741823 : Int32))), .val (.int z2), .val (.int (p3 &&& (1073741823 : Int32))), .val (.ref b3rb), .val (.ref b4rb), .val (.long z5), .second, .val (.long z6), .second, .unset] []))
    refine own_go (fun _ k => XS.iconst X4.here hx rfl (hb hby at_90) k) ?_
    show own_Fin _ _ _ _ _ _ _ (T4.setTop (mkF m 91 #[.val (.int p0), .val (.int p1), .val (.int p2), .val (.int p3), .val (.int z1), .val (.int (p1 &&& (1073741823 : Int32))), .val (.int z2), .val (.int (p3 &&& (1073741823 : Int32))), .val (.ref b3rb), .val (.ref b4rb), .val (.long z5), .second, .val (.long z6), .second, .unset] [(.int (0 : Int32))]))
    have kj := hk8 T4 _ (own_mono X4 (by decide) (by decide)) N4 rfl
    simpa only [if_neg hc7] using kj
theorem own_linev (n : Int32) (h : 0 ≤ n.toInt ∧ n.toInt ≤ 2) : (own_line n).toInt = 1 + n.toInt := by
  have k1 : (1 : Int32).toInt = 1 := by decide
  have k2 : (2 : Int32).toInt = 2 := by decide
  have e1 : ((1 : Int32) + (1 : Int32)).toInt = 2 := by decide
  have e2 : (((1 : Int32) + (1 : Int32)) + (1 : Int32)).toInt = 3 := by decide
  simp only [own_line, Int32.lt_iff_toInt_lt, k1, k2]
  repeat' split
  all_goals omega
theorem own_colv (k : Int32) (h : 0 ≤ k.toInt ∧ k.toInt < 1073741824) : (own_col k).toInt = 1 + k.toInt := by
  have k1 : (1 : Int32).toInt = 1 := by decide
  have k0 : (0 : Int32).toInt = 0 := by decide
  have a := c_iadd 1 k
  have r := rng32 (1 + k)
  simp only [own_col]
  split
  · rename_i q; rw [q]; decide
  · omega
theorem own_keyv (n k : Int32) (h : 0 ≤ n.toInt ∧ n.toInt ≤ 2) (h2 : 0 ≤ k.toInt ∧ k.toInt < 1073741824) : ((own_lshl (((1 : Int32) + n).toInt64) (31 : Int32)) + (((1 : Int32) + k).toInt64)).toInt = (1 + n.toInt) * 2147483648 + (1 + k.toInt) := by
  have k1 : (1 : Int32).toInt = 1 := by decide
  have a := c_iadd 1 n
  have r := rng32 (1 + n)
  have a' := c_iadd 1 k
  have r' := rng32 (1 + k)
  have b := c_i2l (1 + n)
  have b' := c_i2l (1 + k)
  have c : ((own_lshl (((1 : Int32) + n).toInt64) (31 : Int32)).toInt - (((1 : Int32) + n).toInt64).toInt * (2 ^ 31 : Nat)) % 18446744073709551616 = 0 := c_lshl _ 31 31 (by decide)
  rw [show ((2 ^ 31 : Nat) : Int) = 2147483648 from by decide] at c
  have r2 := rng64 (own_lshl (((1 : Int32) + n).toInt64) (31 : Int32))
  have d := c_ladd (own_lshl (((1 : Int32) + n).toInt64) (31 : Int32)) (((1 : Int32) + k).toInt64)
  have r3 := rng64 ((own_lshl (((1 : Int32) + n).toInt64) (31 : Int32)) + (((1 : Int32) + k).toInt64))
  omega
theorem own_plain (p0 p1 p2 p3 : Int32) : own_f0 p0 p1 p2 p3 = 1 := by
  have m0 := c_mask p0 2147483647 31 (by decide) (by decide)
  have m2 := c_mask p2 2147483647 31 (by decide) (by decide)
  have m1 := c_mask p1 1073741823 30 (by decide) (by decide)
  have m3 := c_mask p3 1073741823 30 (by decide) (by decide)
  rw [show ((2 ^ 31 : Nat) : Int) = 2147483648 from by decide] at m0 m2
  rw [show ((2 ^ 30 : Nat) : Int) = 1073741824 from by decide] at m1 m3
  have d0 := (c_irem (p0 &&& 2147483647) 3 3 (by decide)).1 (by omega)
  have d2 := (c_irem (p2 &&& 2147483647) 3 3 (by decide)).1 (by omega)
  simp only [own_f0]
  generalize (p0 &&& (2147483647 : Int32)) % (3 : Int32) = n1 at *
  generalize (p2 &&& (2147483647 : Int32)) % (3 : Int32) = n2 at *
  generalize (p1 &&& (1073741823 : Int32)) = k1 at *
  generalize (p3 &&& (1073741823 : Int32)) = k2 at *
  have l1 := own_linev n1 (by omega)
  have l2 := own_linev n2 (by omega)
  have c1 := own_colv k1 (by omega)
  have c2 := own_colv k2 (by omega)
  have e1 := own_keyv n1 k1 (by omega) (by omega)
  have e2 := own_keyv n2 k2 (by omega) (by omega)
  have key : own_f7 (own_line n1) (own_col k1) (own_line n2) (own_col k2) = (if ((own_lshl (((1 : Int32) + n1).toInt64) (31 : Int32)) + (((1 : Int32) + k1).toInt64)) < ((own_lshl (((1 : Int32) + n2).toInt64) (31 : Int32)) + (((1 : Int32) + k2).toInt64)) then (1 : Int32) else (0 : Int32)) := by
    simp only [own_f7, Int32.lt_iff_toInt_lt, Int64.lt_iff_toInt_lt, ← Int32.toInt_inj, l1, l2, c1, c2, e1, e2]
    repeat' split
    all_goals first | rfl | omega
  exact if_pos key

set_option maxRecDepth 65536 in
set_option maxHeartbeats 40000000 in
theorem comes_1 {Post : Tables → Env → Array Value → State → Outcome → State → Prop} (hpost : ∀ tb e args s v u, (limb_1_1.after args s (.returned v) u = true ∧ limb_1_2.after args s (.returned v) u = true ∧ True) → FrameEnd s (.returned v) u (Jvm.fieldLocs frame_1_writes args s ++ Jvm.arrayLocs frame_1_arrays args s ++ Jvm.staticLocs frame_1_statics s) 16 128 → Post tb e args s (.returned v) u) :
    ArmFor flags0 classFile x code maxLocals ret World_1 tables_1 room_1 Calls_1 rest_1 Pre_1 Post := by
  intro l hfl _ _ p e ha hc hk s m args below hf hA hF happ hP
  obtain ⟨hcalls, hrest, hpre⟩ := hP
  obtain ⟨-, -, -, hnamed, -, -, -, hat⟩ := (Spec.applies_iff hf).mp happ
  obtain ⟨hg, hn⟩ := and_e (Cond.before_iff.mp (show (Jvm.Cond.and given_1 narrow_1).before args s = true from hpre))
  obtain ⟨g1, g2⟩ := and_e hg
  obtain ⟨g3, g4⟩ := and_e g2
  obtain ⟨g5, g6⟩ := and_e g4
  obtain ⟨g7, g8⟩ := and_e g6
  obtain ⟨w0, w1, w2, w3, rfl⟩ : ∃ w0 w1 w2 w3 : Value, args = #[w0, w1, w2, w3] := by
    have hs : args.size = 4 := by simpa [Cond.value, given_1] using g1
    obtain ⟨L⟩ := args
    match L, hs with
    | [w0, w1, w2, w3], _ => exact ⟨w0, w1, w2, w3, rfl⟩
  have hw := fun d (hd : d ∈ tables_1) => atoms_spec (ws := Jvm.Cond.code x code maxLocals ret :: tables_1) hat d (List.mem_cons_of_mem _ hd)
  have hfit : Fit s := fun {y c} hc i hi => by
    obtain ⟨ha, rfl⟩ := Array.getElem?_eq_some_iff.mp hc
    have q := List.all_eq_true.mp ((Array.all_eq_true_iff_forall_mem.mp hF) _ (Array.getElem_mem ha)) i (List.mem_range.mpr hi)
    simpa [Array.getElem?_eq_getElem hi] using q
  obtain ⟨i0, ei0⟩ := is_v g3
  obtain rfl : w0 = (.int i0) := Option.some.inj ei0
  obtain ⟨i1, ei1⟩ := is_v g5
  obtain rfl : w1 = (.int i1) := Option.some.inj ei1
  obtain ⟨i2, ei2⟩ := is_v g7
  obtain rfl : w2 = (.int i2) := Option.some.inj ei2
  obtain ⟨i3, ei3⟩ := is_v g8
  obtain rfl : w3 = (.int i3) := Option.some.inj ei3
  obtain ⟨n, o, h1, h2, h3, _, L, rfl, ⟨rfl, N, hrest'⟩, hq⟩ := rm0 l s _ hw tables_1 i0 i1 i2 i3 s.heap s.heap.size (Nat.le_refl _) p e ha hc hk s m _ below hf ((Spec.applies_iff_loose hf).mp happ).1 ⟨rfl, State.Warmed39.refl s, rfl⟩ trivial
  refine ⟨n, _, h1, h2, h3, hpost _ _ _ _ _ _ ⟨Cond.after_iff.mpr rfl, Cond.after_iff.mpr (eq_i res_at (Term.int_eval (1)) (congrArg Value.int (own_plain i0 i1 i2 i3))), trivial⟩ ⟨hq.1, hq.2.1, (hq.2.2.sift fun y hy => Or.inr (N y hy)).mono (by decide) (by decide)⟩⟩
theorem main_1_1 : Claimed_1_1 := comes_1 fun _ _ _ _ _ _ h hF => ⟨h.1, hF⟩
theorem main_1_2 : Claimed_1_2 := comes_1 fun _ _ _ _ _ _ h hF => ⟨h.2.1, hF⟩
end Jvm.Pilot.@@N@@
namespace Jvm.Pilot.@@N@@
open Jvm Jvm.ClassFile Sem Op Lib Jvm.Free Jvm.Stand Jvm.Pilot.@@N@@.Jvm.D
/-! MADE BY PROGRAM (witnessworld.py) out of the Statement's table words and the real class files: 12 classes; the members and pool entries that the words name. The judged class is class 1, her method 1. -/
namespace start1
open Jvm.ClassFile
def u (s : String) : CpInfo := .utf8 (stringToUtf16 s)
/-- a pool by its gaps: so many unusable entries, then the entry; so many at the end -/
def gap : Nat → List CpInfo → List CpInfo
  | 0, r => r
  | n + 1, r => .unusable :: gap n r
def poolList (es : List (Nat × CpInfo)) (last : Nat) : List CpInfo := es.foldr (fun e r => gap e.1 (e.2 :: r)) (gap last [])
def pool (es : List (Nat × CpInfo)) (last : Nat) : Array CpInfo := ⟨poolList es last⟩
def fileOf (pool : Array CpInfo) (this : Nat) (attrs : Array Attribute := #[]) (ms : Array MethodInfo := #[]) (fl : Nat := 33) (sup : Nat := 0) (ifs : Array Nat := #[]) (fds : Array FieldInfo := #[]) : ClassFile where
  minorVersion := 0
  majorVersion := 65
  constantPool := pool
  accessFlags := fl
  thisClass := this
  superClass := sup
  interfaces := ifs
  fields := fds
  methods := ms
  attributes := attrs
def plain (name : String) (sup : Option ClassId) : Class where
  name := name
  kind := .ordinary
  loader := none
  accessFlags := 33
  super := sup
  interfaces := #[]
  cf := none
  fields := #[]
  methods := #[]
  instanceTypes := #[]
  staticTypes := #[]
  resolved := #[]
  callSites := []
  init := .initialized
  statics := none
  mirror := none

def pool0 : Array CpInfo := pool [(5, u "<init>"), (0, u "()V"), (1, .class_ 10), (1, u "java/lang/Object")] 113

def k0c0 : Code := { maxStack := 0, maxLocals := 1, code := object_method_1_code, exceptionTable := #[], attributes := #[] }
def k0m0 : Method := { name := "<init>", desc := "()V", sig := { parameters := [], returnType := none }, accessFlags := 1, code := some k0c0 }
/-- java/lang/Object -/
def k0 : Class := { plain "java/lang/Object" none with
  accessFlags := 33
  interfaces := #[]
  cf := some (fileOf pool0 8 #[] #[{ accessFlags := 1, nameIndex := 5, descriptorIndex := 6, attributes := #[] }] 33 0 #[] #[])
  fields := #[]
  methods := #[k0m0]
  instanceTypes := #[]
  staticTypes := #[]
  resolved := Array.replicate 124 none
  statics := none }

def pool1 : Array CpInfo := pool [(2, .class_ 4), (0, .nameAndType 5 6), (0, u "java/lang/Object"), (0, u "<init>"), (0, u "()V"), (0, .integer 2147483647), (0, .integer 1073741823), (0, .methodref 10 11), (0, .class_ 12), (0, .nameAndType 13 14), (0, u "com/example/blinkset/blinkset/TextPositionIsBeforePinLaw"), (0, u "build"), (0, u "(II)Lcom/example/blinkset/blinkset/TextPosition;"), (0, .methodref 16 17), (0, .class_ 18), (0, .nameAndType 19 20), (0, u "com/example/blinkset/blinkset/TextPosition"), (0, u "isBefore"), (0, u "(Lcom/example/blinkset/blinkset/TextPosition;)Z"), (0, .methodref 16 3), (0, .methodref 16 23), (0, .nameAndType 24 25), (0, u "advance"), (0, u "(C)V"), (0, .methodref 16 27), (0, .nameAndType 28 29), (0, u "advanceColumns"), (0, u "(I)V"), (2, u "law"), (0, u "(IIII)Z")] 3

def k1m0 : Method := { name := "<init>", desc := "()V", sig := { parameters := [], returnType := none }, accessFlags := 1, code := none }
def k1c1 : Code := { maxStack := 4, maxLocals := 15, code := code, exceptionTable := #[], attributes := #[] }
def k1m1 : Method := { name := "law", desc := "(IIII)Z", sig := { parameters := [.int, .int, .int, .int], returnType := some .boolean }, accessFlags := 9, code := some k1c1 }
def k1c2 : Code := { maxStack := 2, maxLocals := 3, code := method_3_code, exceptionTable := #[], attributes := #[] }
def k1m2 : Method := { name := "build", desc := "(II)Lcom/example/blinkset/blinkset/TextPosition;", sig := { parameters := [.int, .int], returnType := some (.object "com/example/blinkset/blinkset/TextPosition") }, accessFlags := 10, code := some k1c2 }
/-- com/example/blinkset/blinkset/TextPositionIsBeforePinLaw -/
def k1 : Class := { plain "com/example/blinkset/blinkset/TextPositionIsBeforePinLaw" (some 0) with
  accessFlags := 49
  interfaces := #[]
  cf := some (fileOf pool1 10 #[] #[{ accessFlags := 1, nameIndex := 5, descriptorIndex := 6, attributes := #[] }, { accessFlags := 9, nameIndex := 32, descriptorIndex := 33, attributes := #[] }, { accessFlags := 10, nameIndex := 13, descriptorIndex := 14, attributes := #[] }] 49 2 #[] #[])
  fields := #[]
  methods := #[k1m0, k1m1, k1m2]
  instanceTypes := #[]
  staticTypes := #[]
  resolved := Array.replicate 37 none
  statics := none }

def pool2 : Array CpInfo := pool [(1, .methodref 2 3), (0, .class_ 4), (0, .nameAndType 5 6), (0, u "java/lang/Object"), (0, u "<init>"), (0, u "()V"), (0, .fieldref 8 9), (0, .class_ 10), (0, .nameAndType 11 12), (0, u "com/example/blinkset/blinkset/TextPosition"), (0, u "line"), (0, u "I"), (0, .fieldref 8 14), (0, .nameAndType 15 12), (0, u "column"), (0, .fieldref 8 17), (0, .nameAndType 18 19), (0, u "afterCarriageReturn"), (0, u "Z"), (0, .fieldref 8 21), (0, .nameAndType 22 19), (0, u "afterHighSurrogate"), (1, .class_ 26), (1, u "java/lang/Character"), (1, u "(C)Z"), (0, .methodref 24 30), (0, .nameAndType 31 28), (0, u "isHighSurrogate"), (4, u "isBefore"), (0, u "(Lcom/example/blinkset/blinkset/TextPosition;)Z"), (1, u "advance"), (0, u "(C)V"), (0, u "advanceColumns"), (0, u "(I)V")] 2

def k2c0 : Code := { maxStack := 2, maxLocals := 1, code := prog_30_method_1_code, exceptionTable := #[], attributes := #[] }
def k2m0 : Method := { name := "<init>", desc := "()V", sig := { parameters := [], returnType := none }, accessFlags := 0, code := some k2c0 }
def k2c1 : Code := { maxStack := 2, maxLocals := 2, code := prog_30_method_5_code, exceptionTable := #[], attributes := #[] }
def k2m1 : Method := { name := "isBefore", desc := "(Lcom/example/blinkset/blinkset/TextPosition;)Z", sig := { parameters := [(.object "com/example/blinkset/blinkset/TextPosition")], returnType := some .boolean }, accessFlags := 0, code := some k2c1 }
def k2c2 : Code := { maxStack := 3, maxLocals := 2, code := prog_30_method_6_code, exceptionTable := #[], attributes := #[] }
def k2m2 : Method := { name := "advance", desc := "(C)V", sig := { parameters := [.char], returnType := none }, accessFlags := 0, code := some k2c2 }
def k2c3 : Code := { maxStack := 3, maxLocals := 2, code := prog_30_method_7_code, exceptionTable := #[], attributes := #[] }
def k2m3 : Method := { name := "advanceColumns", desc := "(I)V", sig := { parameters := [.int], returnType := none }, accessFlags := 0, code := some k2c3 }
/-- com/example/blinkset/blinkset/TextPosition -/
def k2 : Class := { plain "com/example/blinkset/blinkset/TextPosition" (some 0) with
  accessFlags := 32
  interfaces := #[]
  cf := some (fileOf pool2 8 #[] #[{ accessFlags := 0, nameIndex := 5, descriptorIndex := 6, attributes := #[] }, { accessFlags := 0, nameIndex := 36, descriptorIndex := 37, attributes := #[] }, { accessFlags := 0, nameIndex := 39, descriptorIndex := 40, attributes := #[] }, { accessFlags := 0, nameIndex := 41, descriptorIndex := 42, attributes := #[] }] 32 2 #[] #[{ accessFlags := 2, nameIndex := 11, descriptorIndex := 12, attributes := #[] }, { accessFlags := 2, nameIndex := 15, descriptorIndex := 12, attributes := #[] }, { accessFlags := 2, nameIndex := 18, descriptorIndex := 19, attributes := #[] }, { accessFlags := 2, nameIndex := 22, descriptorIndex := 19, attributes := #[] }])
  fields := #[{ name := "line", type := .int, accessFlags := 2, slot := 0, constantValue := 0 }, { name := "column", type := .int, accessFlags := 2, slot := 1, constantValue := 0 }, { name := "afterCarriageReturn", type := .boolean, accessFlags := 2, slot := 2, constantValue := 0 }, { name := "afterHighSurrogate", type := .boolean, accessFlags := 2, slot := 3, constantValue := 0 }]
  methods := #[k2m0, k2m1, k2m2, k2m3]
  instanceTypes := #[.int, .int, .boolean, .boolean]
  staticTypes := #[]
  resolved := Array.replicate 45 none
  statics := none }

def pool3 : Array CpInfo := pool [(1, .class_ 2), (0, u "java/io/Serializable"), (0, .class_ 4), (0, u "java/lang/Object")] 2

/-- java/io/Serializable -/
def k3 : Class := { plain "java/io/Serializable" (some 0) with
  accessFlags := 1537
  interfaces := #[]
  cf := some (fileOf pool3 1 #[] #[] 1537 3 #[] #[])
  fields := #[]
  methods := #[]
  instanceTypes := #[]
  staticTypes := #[]
  resolved := Array.replicate 7 none
  statics := none }

def pool4 : Array CpInfo := pool [(1, .class_ 2), (0, u "java/lang/Comparable"), (0, .class_ 4), (0, u "java/lang/Object")] 7

/-- java/lang/Comparable -/
def k4 : Class := { plain "java/lang/Comparable" (some 0) with
  accessFlags := 1537
  interfaces := #[]
  cf := some (fileOf pool4 1 #[] #[] 1537 3 #[] #[])
  fields := #[]
  methods := #[]
  instanceTypes := #[]
  staticTypes := #[]
  resolved := Array.replicate 12 none
  statics := none }

def pool5 : Array CpInfo := pool [(1, .class_ 2), (0, u "java/lang/constant/Constable"), (0, .class_ 4), (0, u "java/lang/Object")] 6

/-- java/lang/constant/Constable -/
def k5 : Class := { plain "java/lang/constant/Constable" (some 0) with
  accessFlags := 1537
  interfaces := #[]
  cf := some (fileOf pool5 1 #[] #[] 1537 3 #[] #[])
  fields := #[]
  methods := #[]
  instanceTypes := #[]
  staticTypes := #[]
  resolved := Array.replicate 11 none
  statics := none }

def pool6 : Array CpInfo := pool [(1, .class_ 2), (0, u "java/lang/Character"), (18, u "value"), (0, u "C"), (19, .class_ 44), (1, u "java/lang/Object"), (3, .class_ 50), (1, u "java/lang/Character$CharacterCache"), (24, .integer 55296), (4, u "isHighSurrogate"), (0, u "(C)Z"), (202, u "$assertionsDisabled"), (0, u "Z"), (21, .class_ 309), (1, u "java/lang/Character$UnicodeBlock"), (73, u "TYPE"), (0, u "Ljava/lang/Class;"), (0, .class_ 386), (0, u "java/io/Serializable"), (0, .class_ 388), (0, u "java/lang/Comparable"), (0, .class_ 390), (0, u "java/lang/constant/Constable"), (0, u "MIN_RADIX"), (0, u "I"), (2, u "MAX_RADIX"), (1, u "MIN_VALUE"), (1, u "MAX_VALUE"), (3, u "UNASSIGNED"), (0, u "B"), (0, u "UPPERCASE_LETTER"), (1, u "LOWERCASE_LETTER"), (0, u "TITLECASE_LETTER"), (1, u "MODIFIER_LETTER"), (1, u "OTHER_LETTER"), (1, u "NON_SPACING_MARK"), (1, u "ENCLOSING_MARK"), (1, u "COMBINING_SPACING_MARK"), (1, u "DECIMAL_DIGIT_NUMBER"), (1, u "LETTER_NUMBER"), (1, u "OTHER_NUMBER"), (1, u "SPACE_SEPARATOR"), (1, u "LINE_SEPARATOR"), (1, u "PARAGRAPH_SEPARATOR"), (1, u "CONTROL"), (1, u "FORMAT"), (1, u "PRIVATE_USE"), (1, u "SURROGATE"), (1, u "DASH_PUNCTUATION"), (1, u "START_PUNCTUATION"), (1, u "END_PUNCTUATION"), (1, u "CONNECTOR_PUNCTUATION"), (1, u "OTHER_PUNCTUATION"), (1, u "MATH_SYMBOL"), (1, u "CURRENCY_SYMBOL"), (1, u "MODIFIER_SYMBOL"), (1, u "OTHER_SYMBOL"), (1, u "INITIAL_QUOTE_PUNCTUATION"), (1, u "FINAL_QUOTE_PUNCTUATION"), (1, u "ERROR"), (1, u "DIRECTIONALITY_UNDEFINED"), (0, u "DIRECTIONALITY_LEFT_TO_RIGHT"), (0, u "DIRECTIONALITY_RIGHT_TO_LEFT"), (0, u "DIRECTIONALITY_RIGHT_TO_LEFT_ARABIC"), (0, u "DIRECTIONALITY_EUROPEAN_NUMBER"), (0, u "DIRECTIONALITY_EUROPEAN_NUMBER_SEPARATOR"), (0, u "DIRECTIONALITY_EUROPEAN_NUMBER_TERMINATOR"), (0, u "DIRECTIONALITY_ARABIC_NUMBER"), (0, u "DIRECTIONALITY_COMMON_NUMBER_SEPARATOR"), (0, u "DIRECTIONALITY_NONSPACING_MARK"), (0, u "DIRECTIONALITY_BOUNDARY_NEUTRAL"), (0, u "DIRECTIONALITY_PARAGRAPH_SEPARATOR"), (0, u "DIRECTIONALITY_SEGMENT_SEPARATOR"), (0, u "DIRECTIONALITY_WHITESPACE"), (0, u "DIRECTIONALITY_OTHER_NEUTRALS"), (0, u "DIRECTIONALITY_LEFT_TO_RIGHT_EMBEDDING"), (0, u "DIRECTIONALITY_LEFT_TO_RIGHT_OVERRIDE"), (0, u "DIRECTIONALITY_RIGHT_TO_LEFT_EMBEDDING"), (0, u "DIRECTIONALITY_RIGHT_TO_LEFT_OVERRIDE"), (1, u "DIRECTIONALITY_POP_DIRECTIONAL_FORMAT"), (0, u "DIRECTIONALITY_LEFT_TO_RIGHT_ISOLATE"), (0, u "DIRECTIONALITY_RIGHT_TO_LEFT_ISOLATE"), (0, u "DIRECTIONALITY_FIRST_STRONG_ISOLATE"), (0, u "DIRECTIONALITY_POP_DIRECTIONAL_ISOLATE"), (0, u "MIN_HIGH_SURROGATE"), (0, u "MAX_HIGH_SURROGATE"), (1, u "MIN_LOW_SURROGATE"), (0, u "MAX_LOW_SURROGATE"), (1, u "MIN_SURROGATE"), (0, u "MAX_SURROGATE"), (0, u "MIN_SUPPLEMENTARY_CODE_POINT"), (0, u "MIN_CODE_POINT"), (0, u "MAX_CODE_POINT"), (1, u "serialVersionUID"), (0, u "J"), (2, u "SIZE"), (0, u "BYTES"), (88, .class_ 596), (0, u "java/lang/Character$UnicodeScript"), (0, .class_ 598), (0, u "java/lang/Character$Subset")] 5

def k6c0 : Code := { maxStack := 2, maxLocals := 1, code := jdk_89_method_14_code, exceptionTable := #[], attributes := #[] }
def k6m0 : Method := { name := "isHighSurrogate", desc := "(C)Z", sig := { parameters := [.char], returnType := some .boolean }, accessFlags := 9, code := some k6c0 }
/-- java/lang/Character -/
def k6 : Class := { plain "java/lang/Character" (some 0) with
  accessFlags := 49
  interfaces := #[3, 4, 5]
  cf := some (fileOf pool6 1 #[.nestMembers #[48, 595, 307, 597]] #[{ accessFlags := 9, nameIndex := 80, descriptorIndex := 81, attributes := #[] }] 49 42 #[385, 387, 389] #[{ accessFlags := 25, nameIndex := 391, descriptorIndex := 392, attributes := #[] }, { accessFlags := 25, nameIndex := 395, descriptorIndex := 392, attributes := #[] }, { accessFlags := 25, nameIndex := 397, descriptorIndex := 22, attributes := #[] }, { accessFlags := 25, nameIndex := 399, descriptorIndex := 22, attributes := #[] }, { accessFlags := 25, nameIndex := 383, descriptorIndex := 384, attributes := #[] }, { accessFlags := 25, nameIndex := 403, descriptorIndex := 404, attributes := #[] }, { accessFlags := 25, nameIndex := 405, descriptorIndex := 404, attributes := #[] }, { accessFlags := 25, nameIndex := 407, descriptorIndex := 404, attributes := #[] }, { accessFlags := 25, nameIndex := 408, descriptorIndex := 404, attributes := #[] }, { accessFlags := 25, nameIndex := 410, descriptorIndex := 404, attributes := #[] }, { accessFlags := 25, nameIndex := 412, descriptorIndex := 404, attributes := #[] }, { accessFlags := 25, nameIndex := 414, descriptorIndex := 404, attributes := #[] }, { accessFlags := 25, nameIndex := 416, descriptorIndex := 404, attributes := #[] }, { accessFlags := 25, nameIndex := 418, descriptorIndex := 404, attributes := #[] }, { accessFlags := 25, nameIndex := 420, descriptorIndex := 404, attributes := #[] }, { accessFlags := 25, nameIndex := 422, descriptorIndex := 404, attributes := #[] }, { accessFlags := 25, nameIndex := 424, descriptorIndex := 404, attributes := #[] }, { accessFlags := 25, nameIndex := 426, descriptorIndex := 404, attributes := #[] }, { accessFlags := 25, nameIndex := 428, descriptorIndex := 404, attributes := #[] }, { accessFlags := 25, nameIndex := 430, descriptorIndex := 404, attributes := #[] }, { accessFlags := 25, nameIndex := 432, descriptorIndex := 404, attributes := #[] }, { accessFlags := 25, nameIndex := 434, descriptorIndex := 404, attributes := #[] }, { accessFlags := 25, nameIndex := 436, descriptorIndex := 404, attributes := #[] }, { accessFlags := 25, nameIndex := 438, descriptorIndex := 404, attributes := #[] }, { accessFlags := 25, nameIndex := 440, descriptorIndex := 404, attributes := #[] }, { accessFlags := 25, nameIndex := 442, descriptorIndex := 404, attributes := #[] }, { accessFlags := 25, nameIndex := 444, descriptorIndex := 404, attributes := #[] }, { accessFlags := 25, nameIndex := 446, descriptorIndex := 404, attributes := #[] }, { accessFlags := 25, nameIndex := 448, descriptorIndex := 404, attributes := #[] }, { accessFlags := 25, nameIndex := 450, descriptorIndex := 404, attributes := #[] }, { accessFlags := 25, nameIndex := 452, descriptorIndex := 404, attributes := #[] }, { accessFlags := 25, nameIndex := 454, descriptorIndex := 404, attributes := #[] }, { accessFlags := 25, nameIndex := 456, descriptorIndex := 404, attributes := #[] }, { accessFlags := 25, nameIndex := 458, descriptorIndex := 404, attributes := #[] }, { accessFlags := 25, nameIndex := 460, descriptorIndex := 404, attributes := #[] }, { accessFlags := 24, nameIndex := 462, descriptorIndex := 392, attributes := #[] }, { accessFlags := 25, nameIndex := 464, descriptorIndex := 404, attributes := #[] }, { accessFlags := 25, nameIndex := 465, descriptorIndex := 404, attributes := #[] }, { accessFlags := 25, nameIndex := 466, descriptorIndex := 404, attributes := #[] }, { accessFlags := 25, nameIndex := 467, descriptorIndex := 404, attributes := #[] }, { accessFlags := 25, nameIndex := 468, descriptorIndex := 404, attributes := #[] }, { accessFlags := 25, nameIndex := 469, descriptorIndex := 404, attributes := #[] }, { accessFlags := 25, nameIndex := 470, descriptorIndex := 404, attributes := #[] }, { accessFlags := 25, nameIndex := 471, descriptorIndex := 404, attributes := #[] }, { accessFlags := 25, nameIndex := 472, descriptorIndex := 404, attributes := #[] }, { accessFlags := 25, nameIndex := 473, descriptorIndex := 404, attributes := #[] }, { accessFlags := 25, nameIndex := 474, descriptorIndex := 404, attributes := #[] }, { accessFlags := 25, nameIndex := 475, descriptorIndex := 404, attributes := #[] }, { accessFlags := 25, nameIndex := 476, descriptorIndex := 404, attributes := #[] }, { accessFlags := 25, nameIndex := 477, descriptorIndex := 404, attributes := #[] }, { accessFlags := 25, nameIndex := 478, descriptorIndex := 404, attributes := #[] }, { accessFlags := 25, nameIndex := 479, descriptorIndex := 404, attributes := #[] }, { accessFlags := 25, nameIndex := 480, descriptorIndex := 404, attributes := #[] }, { accessFlags := 25, nameIndex := 481, descriptorIndex := 404, attributes := #[] }, { accessFlags := 25, nameIndex := 482, descriptorIndex := 404, attributes := #[] }, { accessFlags := 25, nameIndex := 484, descriptorIndex := 404, attributes := #[] }, { accessFlags := 25, nameIndex := 485, descriptorIndex := 404, attributes := #[] }, { accessFlags := 25, nameIndex := 486, descriptorIndex := 404, attributes := #[] }, { accessFlags := 25, nameIndex := 487, descriptorIndex := 404, attributes := #[] }, { accessFlags := 25, nameIndex := 488, descriptorIndex := 404, attributes := #[] }, { accessFlags := 25, nameIndex := 489, descriptorIndex := 22, attributes := #[] }, { accessFlags := 25, nameIndex := 490, descriptorIndex := 22, attributes := #[] }, { accessFlags := 25, nameIndex := 492, descriptorIndex := 22, attributes := #[] }, { accessFlags := 25, nameIndex := 493, descriptorIndex := 22, attributes := #[] }, { accessFlags := 25, nameIndex := 495, descriptorIndex := 22, attributes := #[] }, { accessFlags := 25, nameIndex := 496, descriptorIndex := 22, attributes := #[] }, { accessFlags := 25, nameIndex := 497, descriptorIndex := 392, attributes := #[] }, { accessFlags := 25, nameIndex := 498, descriptorIndex := 392, attributes := #[] }, { accessFlags := 25, nameIndex := 499, descriptorIndex := 392, attributes := #[] }, { accessFlags := 18, nameIndex := 21, descriptorIndex := 22, attributes := #[] }, { accessFlags := 26, nameIndex := 501, descriptorIndex := 502, attributes := #[] }, { accessFlags := 25, nameIndex := 505, descriptorIndex := 392, attributes := #[] }, { accessFlags := 25, nameIndex := 506, descriptorIndex := 392, attributes := #[] }, { accessFlags := 4120, nameIndex := 284, descriptorIndex := 285, attributes := #[] }])
  fields := #[{ name := "MIN_RADIX", type := .int, accessFlags := 25, slot := 0, constantValue := 0 }, { name := "MAX_RADIX", type := .int, accessFlags := 25, slot := 1, constantValue := 0 }, { name := "MIN_VALUE", type := .char, accessFlags := 25, slot := 2, constantValue := 0 }, { name := "MAX_VALUE", type := .char, accessFlags := 25, slot := 3, constantValue := 0 }, { name := "TYPE", type := (.object "java/lang/Class"), accessFlags := 25, slot := 4, constantValue := 0 }, { name := "UNASSIGNED", type := .byte, accessFlags := 25, slot := 5, constantValue := 0 }, { name := "UPPERCASE_LETTER", type := .byte, accessFlags := 25, slot := 6, constantValue := 0 }, { name := "LOWERCASE_LETTER", type := .byte, accessFlags := 25, slot := 7, constantValue := 0 }, { name := "TITLECASE_LETTER", type := .byte, accessFlags := 25, slot := 8, constantValue := 0 }, { name := "MODIFIER_LETTER", type := .byte, accessFlags := 25, slot := 9, constantValue := 0 }, { name := "OTHER_LETTER", type := .byte, accessFlags := 25, slot := 10, constantValue := 0 }, { name := "NON_SPACING_MARK", type := .byte, accessFlags := 25, slot := 11, constantValue := 0 }, { name := "ENCLOSING_MARK", type := .byte, accessFlags := 25, slot := 12, constantValue := 0 }, { name := "COMBINING_SPACING_MARK", type := .byte, accessFlags := 25, slot := 13, constantValue := 0 }, { name := "DECIMAL_DIGIT_NUMBER", type := .byte, accessFlags := 25, slot := 14, constantValue := 0 }, { name := "LETTER_NUMBER", type := .byte, accessFlags := 25, slot := 15, constantValue := 0 }, { name := "OTHER_NUMBER", type := .byte, accessFlags := 25, slot := 16, constantValue := 0 }, { name := "SPACE_SEPARATOR", type := .byte, accessFlags := 25, slot := 17, constantValue := 0 }, { name := "LINE_SEPARATOR", type := .byte, accessFlags := 25, slot := 18, constantValue := 0 }, { name := "PARAGRAPH_SEPARATOR", type := .byte, accessFlags := 25, slot := 19, constantValue := 0 }, { name := "CONTROL", type := .byte, accessFlags := 25, slot := 20, constantValue := 0 }, { name := "FORMAT", type := .byte, accessFlags := 25, slot := 21, constantValue := 0 }, { name := "PRIVATE_USE", type := .byte, accessFlags := 25, slot := 22, constantValue := 0 }, { name := "SURROGATE", type := .byte, accessFlags := 25, slot := 23, constantValue := 0 }, { name := "DASH_PUNCTUATION", type := .byte, accessFlags := 25, slot := 24, constantValue := 0 }, { name := "START_PUNCTUATION", type := .byte, accessFlags := 25, slot := 25, constantValue := 0 }, { name := "END_PUNCTUATION", type := .byte, accessFlags := 25, slot := 26, constantValue := 0 }, { name := "CONNECTOR_PUNCTUATION", type := .byte, accessFlags := 25, slot := 27, constantValue := 0 }, { name := "OTHER_PUNCTUATION", type := .byte, accessFlags := 25, slot := 28, constantValue := 0 }, { name := "MATH_SYMBOL", type := .byte, accessFlags := 25, slot := 29, constantValue := 0 }, { name := "CURRENCY_SYMBOL", type := .byte, accessFlags := 25, slot := 30, constantValue := 0 }, { name := "MODIFIER_SYMBOL", type := .byte, accessFlags := 25, slot := 31, constantValue := 0 }, { name := "OTHER_SYMBOL", type := .byte, accessFlags := 25, slot := 32, constantValue := 0 }, { name := "INITIAL_QUOTE_PUNCTUATION", type := .byte, accessFlags := 25, slot := 33, constantValue := 0 }, { name := "FINAL_QUOTE_PUNCTUATION", type := .byte, accessFlags := 25, slot := 34, constantValue := 0 }, { name := "ERROR", type := .int, accessFlags := 24, slot := 35, constantValue := 0 }, { name := "DIRECTIONALITY_UNDEFINED", type := .byte, accessFlags := 25, slot := 36, constantValue := 0 }, { name := "DIRECTIONALITY_LEFT_TO_RIGHT", type := .byte, accessFlags := 25, slot := 37, constantValue := 0 }, { name := "DIRECTIONALITY_RIGHT_TO_LEFT", type := .byte, accessFlags := 25, slot := 38, constantValue := 0 }, { name := "DIRECTIONALITY_RIGHT_TO_LEFT_ARABIC", type := .byte, accessFlags := 25, slot := 39, constantValue := 0 }, { name := "DIRECTIONALITY_EUROPEAN_NUMBER", type := .byte, accessFlags := 25, slot := 40, constantValue := 0 }, { name := "DIRECTIONALITY_EUROPEAN_NUMBER_SEPARATOR", type := .byte, accessFlags := 25, slot := 41, constantValue := 0 }, { name := "DIRECTIONALITY_EUROPEAN_NUMBER_TERMINATOR", type := .byte, accessFlags := 25, slot := 42, constantValue := 0 }, { name := "DIRECTIONALITY_ARABIC_NUMBER", type := .byte, accessFlags := 25, slot := 43, constantValue := 0 }, { name := "DIRECTIONALITY_COMMON_NUMBER_SEPARATOR", type := .byte, accessFlags := 25, slot := 44, constantValue := 0 }, { name := "DIRECTIONALITY_NONSPACING_MARK", type := .byte, accessFlags := 25, slot := 45, constantValue := 0 }, { name := "DIRECTIONALITY_BOUNDARY_NEUTRAL", type := .byte, accessFlags := 25, slot := 46, constantValue := 0 }, { name := "DIRECTIONALITY_PARAGRAPH_SEPARATOR", type := .byte, accessFlags := 25, slot := 47, constantValue := 0 }, { name := "DIRECTIONALITY_SEGMENT_SEPARATOR", type := .byte, accessFlags := 25, slot := 48, constantValue := 0 }, { name := "DIRECTIONALITY_WHITESPACE", type := .byte, accessFlags := 25, slot := 49, constantValue := 0 }, { name := "DIRECTIONALITY_OTHER_NEUTRALS", type := .byte, accessFlags := 25, slot := 50, constantValue := 0 }, { name := "DIRECTIONALITY_LEFT_TO_RIGHT_EMBEDDING", type := .byte, accessFlags := 25, slot := 51, constantValue := 0 }, { name := "DIRECTIONALITY_LEFT_TO_RIGHT_OVERRIDE", type := .byte, accessFlags := 25, slot := 52, constantValue := 0 }, { name := "DIRECTIONALITY_RIGHT_TO_LEFT_EMBEDDING", type := .byte, accessFlags := 25, slot := 53, constantValue := 0 }, { name := "DIRECTIONALITY_RIGHT_TO_LEFT_OVERRIDE", type := .byte, accessFlags := 25, slot := 54, constantValue := 0 }, { name := "DIRECTIONALITY_POP_DIRECTIONAL_FORMAT", type := .byte, accessFlags := 25, slot := 55, constantValue := 0 }, { name := "DIRECTIONALITY_LEFT_TO_RIGHT_ISOLATE", type := .byte, accessFlags := 25, slot := 56, constantValue := 0 }, { name := "DIRECTIONALITY_RIGHT_TO_LEFT_ISOLATE", type := .byte, accessFlags := 25, slot := 57, constantValue := 0 }, { name := "DIRECTIONALITY_FIRST_STRONG_ISOLATE", type := .byte, accessFlags := 25, slot := 58, constantValue := 0 }, { name := "DIRECTIONALITY_POP_DIRECTIONAL_ISOLATE", type := .byte, accessFlags := 25, slot := 59, constantValue := 0 }, { name := "MIN_HIGH_SURROGATE", type := .char, accessFlags := 25, slot := 60, constantValue := 0 }, { name := "MAX_HIGH_SURROGATE", type := .char, accessFlags := 25, slot := 61, constantValue := 0 }, { name := "MIN_LOW_SURROGATE", type := .char, accessFlags := 25, slot := 62, constantValue := 0 }, { name := "MAX_LOW_SURROGATE", type := .char, accessFlags := 25, slot := 63, constantValue := 0 }, { name := "MIN_SURROGATE", type := .char, accessFlags := 25, slot := 64, constantValue := 0 }, { name := "MAX_SURROGATE", type := .char, accessFlags := 25, slot := 65, constantValue := 0 }, { name := "MIN_SUPPLEMENTARY_CODE_POINT", type := .int, accessFlags := 25, slot := 66, constantValue := 0 }, { name := "MIN_CODE_POINT", type := .int, accessFlags := 25, slot := 67, constantValue := 0 }, { name := "MAX_CODE_POINT", type := .int, accessFlags := 25, slot := 68, constantValue := 0 }, { name := "value", type := .char, accessFlags := 18, slot := 0, constantValue := 0 }, { name := "serialVersionUID", type := .long, accessFlags := 26, slot := 69, constantValue := 0 }, { name := "SIZE", type := .int, accessFlags := 25, slot := 70, constantValue := 0 }, { name := "BYTES", type := .int, accessFlags := 25, slot := 71, constantValue := 0 }, { name := "$assertionsDisabled", type := .boolean, accessFlags := 4120, slot := 72, constantValue := 0 }]
  methods := #[k6m0]
  instanceTypes := #[.char]
  staticTypes := #[.int, .int, .char, .char, (.object "java/lang/Class"), .byte, .byte, .byte, .byte, .byte, .byte, .byte, .byte, .byte, .byte, .byte, .byte, .byte, .byte, .byte, .byte, .byte, .byte, .byte, .byte, .byte, .byte, .byte, .byte, .byte, .byte, .byte, .byte, .byte, .byte, .int, .byte, .byte, .byte, .byte, .byte, .byte, .byte, .byte, .byte, .byte, .byte, .byte, .byte, .byte, .byte, .byte, .byte, .byte, .byte, .byte, .byte, .byte, .byte, .byte, .char, .char, .char, .char, .char, .char, .int, .int, .int, .long, .int, .int, .boolean]
  resolved := Array.replicate 604 none
  statics := none }

def pool7 : Array CpInfo := pool [(1, u "java/lang/Cloneable"), (0, .class_ 1), (0, u "java/lang/Object"), (0, .class_ 3)] 3

/-- java/lang/Cloneable -/
def k7 : Class := { plain "java/lang/Cloneable" (some 0) with
  accessFlags := 1537
  interfaces := #[]
  cf := some (fileOf pool7 2 #[] #[] 1537 4 #[] #[])
  fields := #[]
  methods := #[]
  instanceTypes := #[]
  staticTypes := #[]
  resolved := Array.replicate 8 none
  statics := none }

/-- the primitive byte -/
def k8 : Class := { plain "byte" none with kind := .primitive 'B', accessFlags := 0x411 }
/-- [B -/
def k9 : Class := { plain "[B" (some 0) with kind := .array 8 .byte, interfaces := #[7, 3], accessFlags := 1041 }

/-- the primitive int -/
def k10 : Class := { plain "int" none with kind := .primitive 'I', accessFlags := 0x411 }
/-- [I -/
def k11 : Class := { plain "[I" (some 0) with kind := .array 10 .int, interfaces := #[7, 3], accessFlags := 1041 }

def heap : Heap := #[]
def classes : Array Class := #[k0, k1, k2, k3, k4, k5, k6, k7, k8, k9, k10, k11]
def interned : List (Array UInt16 × Addr) := []
def slotsUsed : Nat := 0
def theMethod : MethodId := ⟨1, 1⟩
def args0 : Array Value := #[.int 2, .int 6, .int 7, .int 8]
def aboutOver (below : List Frame) : State where
  vm := { classes := classes, interned := interned.toArray }
  heap := heap
  slotsUsed := slotsUsed
  threads := #[{ frames := .invoking theMethod args0 :: below }]
def below0 : List Frame := [.native { method := ⟨0, 0⟩, args := #[] }]
def about1 : State := aboutOver below0
def p0 : Program := .bare "" "" ""
def e0 : Env := launch0.env 0 0 0
theorem w_frames : about1.frames = Frame.invoking theMethod args0 :: below0 := rfl
set_option maxRecDepth 65536 in
theorem w_args : argsFit about1.vm theMethod args0 = true := by decide +kernel
set_option maxRecDepth 65536 in
theorem w_heap : heapFits about1 = true := by decide +kernel
set_option maxRecDepth 65536 in
theorem w_runnable : about1.curStatus? = some .runnable := by decide +kernel
set_option maxRecDepth 65536 in
theorem w_alone : about1.alone = true := by decide +kernel
set_option maxRecDepth 65536 in
theorem w_named : about1.methodNamed? x = some theMethod := by decide +kernel
set_option maxRecDepth 65536 in
theorem w_hears : about1.hears theMethod below0 = true := by decide +kernel
set_option maxRecDepth 65536 in
theorem w_ripe : about1.ripe theMethod args0 below0 = true := by decide +kernel
theorem w_running : about1.status = .running := rfl
set_option maxRecDepth 65536 in
theorem w_room : about1.hasRoom e0.platform room_1 = true :=
  launch0.hasRoom_least _ room_1 (by decide +kernel) (by decide +kernel) (by decide +kernel) (by decide +kernel) (by decide +kernel) (by decide +kernel)
theorem allAtoms_all (ts : List Jvm.Cond) (a : Array Jvm.Value) (st : Jvm.State) : (allAtoms ts).before a st = ts.all (fun c => c.before a st) := by
  induction ts with
  | nil => rfl
  | cons c t ih =>
    show (Jvm.Cond.and c (allAtoms t)).before a st = _
    rw [Jvm.Cond.before_and, ih, List.all_cons]
def words1 : List Jvm.Cond := Jvm.Cond.code x code maxLocals ret :: tables_1
/-- a 'code' word, met by the world's own term for the bytes: nothing is compared byte by byte -/
theorem code_word {y : MethodName} {bytes : ByteArray} {mx : Nat} {rt : Option FieldType} {a : Array Value} {s : State} {m : MethodId} {meth : Method} {c : Code} (h1 : s.methodNamed? y = some m) (h2 : s.vm.method? m = some meth) (h3 : meth.code = some c) (h4 : c.code = bytes)
    (h5 : (c.maxLocals == mx && c.exceptionTable.isEmpty && decide (c.maxStack ≤ mostOperands) && decide (meth.sig.returnType = rt) && !meth.locks && decide (parseMethodDescriptor y.desc = some meth.sig)) = true) : (Jvm.Cond.code y bytes mx rt).before a s = true := by
  simp only [Bool.and_eq_true, beq_iff_eq, Bool.not_eq_true', decide_eq_true_eq] at h5
  obtain ⟨⟨⟨⟨⟨g1, g2⟩, g3⟩, g4⟩, g5⟩, g6⟩ := h5
  simp [Cond.before, Cond.holds, Cond.value, h1, h2, h3, h4, g1, g2, g3, g4, g5, g6]
def isCode : Jvm.Cond → Bool
  | .code _ _ _ _ => true
  | _ => false
theorem all_split {L : List Jvm.Cond} {P : Jvm.Cond → Bool} (h1 : L.all (fun c => isCode c || P c) = true) (h2 : ∀ c ∈ L.filter isCode, P c = true) : L.all P = true := by
  refine List.all_eq_true.mpr fun c hc => ?_
  have h := List.all_eq_true.mp h1 c hc
  rcases Bool.eq_false_or_eq_true (isCode c) with hi | hi
  · exact h2 c (List.mem_filter.mpr ⟨hc, hi⟩)
  · simpa [hi] using h
set_option maxRecDepth 65536 in
theorem w_c0 : (Jvm.Cond.code x code maxLocals ret).before args0 about1 = true := code_word (m := ⟨1, 1⟩) (meth := k1m1) (c := k1c1) (by decide +kernel) rfl rfl rfl (by decide +kernel)
set_option maxRecDepth 65536 in
theorem w_c1 : (Jvm.Cond.code ({ cls := "com/example/blinkset/blinkset/TextPositionIsBeforePinLaw", name := "build", desc := "(II)Lcom/example/blinkset/blinkset/TextPosition;" } : Jvm.MethodName) method_3_code (3 : Nat) (Option.some (Jvm.ClassFile.FieldType.object "com/example/blinkset/blinkset/TextPosition"))).before args0 about1 = true := code_word (m := ⟨1, 2⟩) (meth := k1m2) (c := k1c2) (by decide +kernel) rfl rfl rfl (by decide +kernel)
set_option maxRecDepth 65536 in
theorem w_c2 : (Jvm.Cond.code ({ cls := "com/example/blinkset/blinkset/TextPosition", name := "<init>", desc := "()V" } : Jvm.MethodName) prog_30_method_1_code (1 : Nat) (Option.none : Option Jvm.ClassFile.FieldType)).before args0 about1 = true := code_word (m := ⟨2, 0⟩) (meth := k2m0) (c := k2c0) (by decide +kernel) rfl rfl rfl (by decide +kernel)
set_option maxRecDepth 65536 in
theorem w_c3 : (Jvm.Cond.code ({ cls := "java/lang/Object", name := "<init>", desc := "()V" } : Jvm.MethodName) object_method_1_code (1 : Nat) (Option.none : Option Jvm.ClassFile.FieldType)).before args0 about1 = true := code_word (m := ⟨0, 0⟩) (meth := k0m0) (c := k0c0) (by decide +kernel) rfl rfl rfl (by decide +kernel)
set_option maxRecDepth 65536 in
theorem w_c4 : (Jvm.Cond.code ({ cls := "com/example/blinkset/blinkset/TextPosition", name := "advanceColumns", desc := "(I)V" } : Jvm.MethodName) prog_30_method_7_code (2 : Nat) (Option.none : Option Jvm.ClassFile.FieldType)).before args0 about1 = true := code_word (m := ⟨2, 3⟩) (meth := k2m3) (c := k2c3) (by decide +kernel) rfl rfl rfl (by decide +kernel)
set_option maxRecDepth 65536 in
theorem w_c5 : (Jvm.Cond.code ({ cls := "com/example/blinkset/blinkset/TextPosition", name := "advance", desc := "(C)V" } : Jvm.MethodName) prog_30_method_6_code (2 : Nat) (Option.none : Option Jvm.ClassFile.FieldType)).before args0 about1 = true := code_word (m := ⟨2, 2⟩) (meth := k2m2) (c := k2c2) (by decide +kernel) rfl rfl rfl (by decide +kernel)
set_option maxRecDepth 65536 in
theorem w_c6 : (Jvm.Cond.code ({ cls := "java/lang/Character", name := "isHighSurrogate", desc := "(C)Z" } : Jvm.MethodName) jdk_89_method_14_code (1 : Nat) (Option.some Jvm.ClassFile.FieldType.boolean)).before args0 about1 = true := code_word (m := ⟨6, 0⟩) (meth := k6m0) (c := k6c0) (by decide +kernel) rfl rfl rfl (by decide +kernel)
set_option maxRecDepth 65536 in
theorem w_c7 : (Jvm.Cond.code ({ cls := "com/example/blinkset/blinkset/TextPosition", name := "isBefore", desc := "(Lcom/example/blinkset/blinkset/TextPosition;)Z" } : Jvm.MethodName) prog_30_method_5_code (2 : Nat) (Option.some Jvm.ClassFile.FieldType.boolean)).before args0 about1 = true := code_word (m := ⟨2, 1⟩) (meth := k2m1) (c := k2c1) (by decide +kernel) rfl rfl rfl (by decide +kernel)
def codes1 : List Jvm.Cond := [Jvm.Cond.code x code maxLocals ret, Jvm.Cond.code ({ cls := "com/example/blinkset/blinkset/TextPositionIsBeforePinLaw", name := "build", desc := "(II)Lcom/example/blinkset/blinkset/TextPosition;" } : Jvm.MethodName) method_3_code (3 : Nat) (Option.some (Jvm.ClassFile.FieldType.object "com/example/blinkset/blinkset/TextPosition")), Jvm.Cond.code ({ cls := "com/example/blinkset/blinkset/TextPosition", name := "<init>", desc := "()V" } : Jvm.MethodName) prog_30_method_1_code (1 : Nat) (Option.none : Option Jvm.ClassFile.FieldType), Jvm.Cond.code ({ cls := "java/lang/Object", name := "<init>", desc := "()V" } : Jvm.MethodName) object_method_1_code (1 : Nat) (Option.none : Option Jvm.ClassFile.FieldType), Jvm.Cond.code ({ cls := "com/example/blinkset/blinkset/TextPosition", name := "advanceColumns", desc := "(I)V" } : Jvm.MethodName) prog_30_method_7_code (2 : Nat) (Option.none : Option Jvm.ClassFile.FieldType), Jvm.Cond.code ({ cls := "com/example/blinkset/blinkset/TextPosition", name := "advance", desc := "(C)V" } : Jvm.MethodName) prog_30_method_6_code (2 : Nat) (Option.none : Option Jvm.ClassFile.FieldType), Jvm.Cond.code ({ cls := "java/lang/Character", name := "isHighSurrogate", desc := "(C)Z" } : Jvm.MethodName) jdk_89_method_14_code (1 : Nat) (Option.some Jvm.ClassFile.FieldType.boolean), Jvm.Cond.code ({ cls := "com/example/blinkset/blinkset/TextPosition", name := "isBefore", desc := "(Lcom/example/blinkset/blinkset/TextPosition;)Z" } : Jvm.MethodName) prog_30_method_5_code (2 : Nat) (Option.some Jvm.ClassFile.FieldType.boolean)]
set_option maxRecDepth 65536 in
theorem codes_eq : words1.filter isCode = codes1 := rfl
theorem w_codes : ∀ c ∈ words1.filter isCode, c.before args0 about1 = true := by
  rw [codes_eq]
  intro c hc
  simp only [codes1, List.mem_cons, List.not_mem_nil, or_false] at hc
  rcases hc with rfl | rfl | rfl | rfl | rfl | rfl | rfl | rfl
  · exact w_c0
  · exact w_c1
  · exact w_c2
  · exact w_c3
  · exact w_c4
  · exact w_c5
  · exact w_c6
  · exact w_c7
set_option maxRecDepth 65536 in
theorem w_t1 : (words1.take 24).all (fun c => isCode c || c.before args0 about1) = true := by decide +kernel
set_option maxRecDepth 65536 in
theorem w_t2 : (words1.drop 24).all (fun c => isCode c || c.before args0 about1) = true := by decide +kernel
theorem w_tables : (allAtoms (Jvm.Cond.code x code maxLocals ret :: tables_1)).before args0 about1 = true := by
  rw [allAtoms_all]
  show words1.all (fun c => c.before args0 about1) = true
  refine all_split ?_ w_codes
  rw [← List.take_append_drop 24 words1, List.all_append, w_t1, w_t2]
  rfl
set_option maxRecDepth 65536 in
theorem w_case : (Jvm.Cond.and given_1 narrow_1).before args0 about1 = true := by decide +kernel
theorem w_applies : (headSpec (Jvm.Cond.code x code maxLocals ret :: tables_1) room_1).applies x e0.platform about1 = true :=
  (Spec.applies_iff w_frames).mpr ⟨w_running, w_runnable, w_alone, w_named, w_hears, w_ripe, w_room, w_tables⟩
theorem atStart : AtStart classFile x code maxLocals ret World_1 tables_1 room_1 Calls_1 rest_1 Pre_1 launch0 p0 e0 about1 theMethod args0 below0 :=
  ⟨lists_1, trivial, launch0.admits_env _ _ _, launch0.least_env, fairChoices_fair.cas, fairChoices_fair.clock, w_frames, w_args, w_heap, w_applies, trivial, trivial, w_case⟩
end start1
theorem witness_1 : WitnessClaimed_1 := ⟨start1.p0, start1.e0, start1.about1, start1.theMethod, start1.args0, start1.below0, start1.atStart⟩
end Jvm.Pilot.@@N@@
