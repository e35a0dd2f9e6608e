import JvmDerived
import JvmDerived.Pilot.@@N@@Statement
import JvmDerived.Pilot.@@N@@Code
set_option linter.unusedVariables false
set_option linter.unusedSimpArgs false
namespace Jvm.Pilot.@@N@@
open Jvm Jvm.ClassFile Sem Op Lib Jvm.Free Jvm.Stand Jvm.LawKit Jvm.RoadKit Bundle Jvm.Pilot.@@N@@.Jvm.D
/-! own layer: the run from a state ends in a return of which Q holds; one step leads from there to there -/
def own_ishl (x y : Int32) : Int32 := x <<< (y &&& 31)
def own_ishr (x y : Int32) : Int32 := x >>> (y &&& 31)
def own_iushr (x y : Int32) : Int32 := (x.toUInt32 >>> (y &&& 31).toUInt32).toInt32
def own_lshl (x : Int64) (y : Int32) : Int64 := x <<< (y &&& 0x3f).toInt64
def own_lshr (x : Int64) (y : Int32) : Int64 := x >>> (y &&& 0x3f).toInt64
def own_lushr (x : Int64) (y : Int32) : Int64 := (x.toUInt64 >>> (y &&& 0x3f).toInt64.toUInt64).toInt64
def own_i2b (x : Int32) : Int32 := x.toInt8.toInt32
def own_i2c (x : Int32) : Int32 := x.toUInt32.toUInt16.toUInt32.toInt32
def own_Fin (tb : Tables) (e : Env) (below : List Frame) (s : State) (Q : Option Value → Heap → List Loc → Prop) (k n : Nat) (t : State) : Prop :=
  ∃ s₂ o, Steps tb e below t s₂ ∧ s₂.status = .running ∧ Ended s₂ below o ∧ ∃ v L, o = .returned v ∧ Q v s₂.heap L ∧ FrameEnd s o s₂ L k n
theorem own_go {tb : Tables} {e : Env} {below : List Frame} {s : State} {Q : Option Value → Heap → List Loc → Prop} {k n : Nat} {t t' : State}
    (h : ∀ target, Steps tb e below t' target → Steps tb e below t target) (q : own_Fin tb e below s Q k n t') : own_Fin tb e below s Q k n t := by
  obtain ⟨s2, o, h1, h2⟩ := q
  exact ⟨s2, o, h _ h1, h2⟩
def own_QP (r : Option Value) (h0 : Heap) (n0 : Nat) (v : Option Value) (h : Heap) (L : List Loc) : Prop := v = r ∧ Fr n0 L ∧ h = h0
section OwnA
variable {p : Program} {l : Launch} {e : Env} {R : Room} {s : State} {m : MethodId} {args : Array Value} {below : List Frame} {meth : Method} {c : Code} {T : State} {locs : List Loc} {cells slots : Nat}
theorem own_mono (X : Stand p l e R s m args below meth c T locs cells slots) {k n : Nat} (hk : cells ≤ k) (hn : slots ≤ n) : Stand p l e R s m args below meth c T locs k n :=
  { X with same := X.same.mono hk hn }
theorem own_ret (X : Stand p l e R s m args below meth c T locs cells slots) (hx : p.tables.exec = Jvm.exec) (hlk : meth.locks = false) {pc : Nat} {Ls : Array Slot} {w : Value} {t : FieldType} {i : Instr} {rest : List Value} (hret : meth.sig.returnType = some t) (hn : narrow t w = w)
    (hi : (i = .ireturn ∧ (t = .int ∨ t = .boolean ∨ t = .byte ∨ t = .char ∨ t = .short) ∧ ∃ z, w = .int z) ∨ (i = .lreturn ∧ t = .long ∧ ∃ z, w = .long z) ∨ (i = .dreturn ∧ t = .double ∧ ∃ z, w = .double z) ∨ (i = .freturn ∧ t = .float ∧ ∃ z, w = .float z) ∨ (i = .areturn ∧ t.isReference = true ∧ w.isRef = true))
    (hd : decode c.code pc = .ok (i, 1)) {Q : Option Value → Heap → List Loc → Prop} {k n : Nat} (hk : cells ≤ k) (hs : slots ≤ n) (hQ : Q (some w) T.heap locs) :
    own_Fin p.tables e below s Q k n (T.setTop (mkF m pc Ls (w :: rest))) := by
  obtain ⟨fs, hr, hrun, hended, hW, hsame⟩ := X.leave (v := some w) (fun h => by rw [hret] at h; cases h) hlk
  exact ⟨_, _, retOut X hx hret hn hi hd hr, hrun, hended, _, _, rfl, hQ, ⟨_, rfl⟩, hW, hsame.mono hk hs⟩
theorem own_retV (X : Stand p l e R s m args below meth c T locs cells slots) (hx : p.tables.exec = Jvm.exec) (hlk : meth.locks = false) {pc : Nat} {Ls : Array Slot} (hret : meth.sig.returnType = none)
    (hd : decode c.code pc = .ok (.return_, 1)) {Q : Option Value → Heap → List Loc → Prop} {k n : Nat} (hk : cells ≤ k) (hs : slots ≤ n) (hQ : Q none T.heap locs) :
    own_Fin p.tables e below s Q k n (T.setTop (mkF m pc Ls [])) := by
  obtain ⟨fs, hr, hrun, hended, hW, hsame⟩ := X.leave (v := none) (fun _ => rfl) hlk
  exact ⟨_, _, X.returnOut hx hret hd hr, hrun, hended, _, _, rfl, hQ, ⟨_, rfl⟩, hW, hsame.mono hk hs⟩
end OwnA
theorem own_irem {tb : Tables} [Ours tb] {e : Env} {below : List Frame} {T target : State} {m : MethodId} {c : Code} {g : JFrame} (h : At T m c below) (hx : tb.exec = Jvm.exec) (hg : g.method = m) {x y : Int32} {rest : List Value} (hd : decode c.code g.pc = .ok (.irem, 1)) (hs : g.stack = .int y :: .int x :: rest) (hy : y ≠ 0)
    (hr : Steps tb e below (T.setTop { g with pc := g.pc + 1, stack := .int (x % y) :: rest }) target) : Steps tb e below (T.setTop g) target :=
  XS.irem h hx hg hd hs hy (by rw [irem_eq_mod x y]; exact hr)
theorem own_lrem {tb : Tables} [Ours tb] {e : Env} {below : List Frame} {T target : State} {m : MethodId} {c : Code} {g : JFrame} (h : At T m c below) (hx : tb.exec = Jvm.exec) (hg : g.method = m) {x y : Int64} {rest : List Value} (hd : decode c.code g.pc = .ok (.lrem, 1)) (hs : g.stack = .long y :: .long x :: rest) (hy : y ≠ 0)
    (hr : Steps tb e below (T.setTop { g with pc := g.pc + 1, stack := .long (x % y) :: rest }) target) : Steps tb e below (T.setTop g) target :=
  XS.lrem h hx hg hd hs hy (by rw [lrem_mod x y]; exact hr)
/-! arrays by a function of the place -/
def own_set {α : Type} (f : Nat → α) (j : Int32) (v : α) : Nat → α := fun i => if i = j.toNatClampNeg then v else f i
def own_Arf (Z : State) (h : Heap) (a : Addr) (ty : FieldType) (n : Int32) (f : Nat → Value) : Prop :=
  ∃ c : Cell, Arr Z h a c ty ∧ c.slots.size = n.toNatClampNeg ∧ ¬ n < 0 ∧ ∀ i, i < n.toNatClampNeg → c.slots[i]? = some (f i)
section OwnB
variable {Z : State} {h h' : Heap} {a b : Addr} {ty : FieldType} {n j : Int32} {f : Nat → Value} {ws : List Addr} {v : Value} {sl : Nat}
theorem own_Arf.lt (F : own_Arf Z h a ty n f) : a < h.size := by obtain ⟨c, A, -⟩ := F; exact A.lt
theorem own_Arf.ext (F : own_Arf Z h a ty n f) (E : Ext h h') : own_Arf Z h' a ty n f := by obtain ⟨c, A, r⟩ := F; exact ⟨c, A.ext E, r⟩
theorem own_Arf.other (F : own_Arf Z h b ty n f) (W : Wr h h' a sl v) (q : b ≠ a) : own_Arf Z h' b ty n f := by obtain ⟨c, A, r⟩ := F; exact ⟨c, A.other W q, r⟩
theorem own_Arf.keep (F : own_Arf Z h a ty n f) (K : Keep h h' ws) (q : a ∉ ws) : own_Arf Z h' a ty n f := by obtain ⟨c, A, r⟩ := F; exact ⟨c, ⟨K.2.1 a c A.1 q, A.2⟩, r⟩
theorem own_Arf.new {k : ClassId} (A : Arr Z h a (newA k ty n) ty) (q : ¬ n < 0) : own_Arf Z h a ty n (fun _ => defaultValue ty) :=
  ⟨_, A, sz_new _ _ _, q, fun i hi => by simp [newA, hi]⟩
theorem own_Arf.wr (F : own_Arf Z h a ty n f) (W : Wr h h' a j.toNatClampNeg v) : own_Arf Z h' a ty n (fun i => if i = j.toNatClampNeg then v else f i) := by
  obtain ⟨c, A, S, q, H⟩ := F
  refine ⟨_, A.same W, by rw [sz_set]; exact S, q, fun i hi => ?_⟩
  by_cases u : i = j.toNatClampNeg
  · subst u; simp [Cell.setSlot, S, hi]
  · simp only [if_neg u, Cell.setSlot]; rw [Array.getElem?_setIfInBounds_ne (Ne.symm u)]; exact H i hi
theorem own_Arf.fn {g : Nat → Value} (F : own_Arf Z h a ty n f) (q : ∀ i, i < n.toNatClampNeg → f i = g i) : own_Arf Z h a ty n g := by
  obtain ⟨c, A, S, q', H⟩ := F
  exact ⟨c, A, S, q', fun i hi => by rw [← q i hi]; exact H i hi⟩
variable {p : Program} {l : Launch} {e : Env} {R : Room} {s : State} {m : MethodId} {args : Array Value} {below : List Frame} {meth : Method} {c : Code} {T : State} {locs : List Loc} {cells slots : Nat} {g : JFrame} {rest : List Value}
theorem own_alen (X : Stand p l e R s m args below meth c T locs cells slots) (hx : p.tables.exec = Jvm.exec) (hZ : Z.Warmed39 s.vm) (eT : T.heap = h) (F : own_Arf Z h a ty n f) (hg : g.method = m) (hs : g.stack = .ref a :: rest) (hd : decode c.code g.pc = .ok (.arraylength, 1)) (target : State)
    (hr : Steps p.tables e below (T.setTop { g with pc := g.pc + 1, stack := .int n :: rest }) target) : Steps p.tables e below (T.setTop g) target := by
  obtain ⟨cl, A, S, q, H⟩ := F
  refine X.arraylength hx (by rw [eT]; exact A.1) (State.isArrayOf_alike hZ.alike A.2.1) hg hs hd _ ?_
  rw [len_of S q]; exact hr
theorem own_iaload (X : Stand p l e R s m args below meth c T locs cells slots) (hx : p.tables.exec = Jvm.exec) (hZ : Z.Warmed39 s.vm) (eT : T.heap = h) (F : own_Arf Z h a .int n f) (hj : ¬ j < 0 ∧ j < n) {x : Int32} (hv : f j.toNatClampNeg = .int x) (hg : g.method = m) (hs : g.stack = .int j :: .ref a :: rest) (hd : decode c.code g.pc = .ok (.iaload, 1)) (target : State)
    (hr : Steps p.tables e below (T.setTop { g with pc := g.pc + 1, stack := .int x :: rest }) target) : Steps p.tables e below (T.setTop g) target := by
  obtain ⟨cl, A, S, q, H⟩ := F
  have hin := inb_of S hj
  exact X.iaload hx (by rw [eT]; exact A.1) (State.isArrayOf_alike hZ.alike A.2.1) A.2.2 hin (by rw [H _ (by rw [← S]; omega), hv]) hg hs hd _ hr
theorem own_baload (X : Stand p l e R s m args below meth c T locs cells slots) (hx : p.tables.exec = Jvm.exec) (hZ : Z.Warmed39 s.vm) (eT : T.heap = h) (F : own_Arf Z h a .byte n f) (hj : ¬ j < 0 ∧ j < n) {x : Int32} (hv : f j.toNatClampNeg = .int x) (hg : g.method = m) (hs : g.stack = .int j :: .ref a :: rest) (hd : decode c.code g.pc = .ok (.baload, 1)) (target : State)
    (hr : Steps p.tables e below (T.setTop { g with pc := g.pc + 1, stack := .int x :: rest }) target) : Steps p.tables e below (T.setTop g) target := by
  obtain ⟨cl, A, S, q, H⟩ := F
  have hin := inb_of S hj
  exact X.baloadBytes hx (by rw [eT]; exact A.1) (State.isArrayOf_alike hZ.alike A.2.1) A.2.2 hin (by rw [H _ (by rw [← S]; omega), hv]) hg hs hd _ hr
theorem own_laload (X : Stand p l e R s m args below meth c T locs cells slots) (hx : p.tables.exec = Jvm.exec) (hZ : Z.Warmed39 s.vm) (eT : T.heap = h) (F : own_Arf Z h a .long n f) (hj : ¬ j < 0 ∧ j < n) {x : Int64} (hv : f j.toNatClampNeg = .long x) (hg : g.method = m) (hs : g.stack = .int j :: .ref a :: rest) (hd : decode c.code g.pc = .ok (.laload, 1)) (target : State)
    (hr : Steps p.tables e below (T.setTop { g with pc := g.pc + 1, stack := .long x :: rest }) target) : Steps p.tables e below (T.setTop g) target := by
  obtain ⟨cl, A, S, q, H⟩ := F
  have hin := inb_of S hj
  exact X.laload hx (by rw [eT]; exact A.1) (State.isArrayOf_alike hZ.alike A.2.1) A.2.2 hin (by rw [H _ (by rw [← S]; omega), hv]) hg hs hd _ hr
theorem own_stI (X : Stand p l e R s m args below meth c T locs cells slots) (hx : p.tables.exec = Jvm.exec) (hZ : Z.Warmed39 s.vm) (eT : T.heap = h) {q : Nat → Int32} (F : own_Arf Z h a .int n (fun i => .int (q i))) (hj : ¬ j < 0 ∧ j < n) {x : Int32} (hg : g.method = m) (hs : g.stack = .int x :: .int j :: .ref a :: rest) (hd : decode c.code g.pc = .ok (.iastore, 1)) :
    ∃ T' h', Stand p l e R s m args below meth c T' (locs ++ [⟨a, j.toNatClampNeg⟩]) cells slots ∧ T'.heap = h' ∧ Wr h h' a j.toNatClampNeg (.int x) ∧ own_Arf Z h' a .int n (fun i => .int (own_set q j x i)) ∧ ∀ target, Steps p.tables e below (T'.setTop { g with pc := g.pc + 1, stack := rest }) target → Steps p.tables e below (T.setTop g) target := by
  obtain ⟨cl, A, S, q1, H⟩ := F
  obtain ⟨T', h', X', e', W, st⟩ := stI X hx hZ eT A (inb_of S hj) hg hs hd
  refine ⟨T', h', X', e', W, (own_Arf.wr ⟨cl, A, S, q1, H⟩ W).fn fun i hi => ?_, st⟩
  simp only [own_set]; split <;> rfl
theorem own_stB (X : Stand p l e R s m args below meth c T locs cells slots) (hx : p.tables.exec = Jvm.exec) (hZ : Z.Warmed39 s.vm) (eT : T.heap = h) {q : Nat → Int32} (F : own_Arf Z h a .byte n (fun i => .int (q i))) (hj : ¬ j < 0 ∧ j < n) {x : Int32} (hg : g.method = m) (hs : g.stack = .int x :: .int j :: .ref a :: rest) (hd : decode c.code g.pc = .ok (.bastore, 1)) :
    ∃ T' h', Stand p l e R s m args below meth c T' (locs ++ [⟨a, j.toNatClampNeg⟩]) cells slots ∧ T'.heap = h' ∧ Wr h h' a j.toNatClampNeg (.int (own_i2b x)) ∧ own_Arf Z h' a .byte n (fun i => .int (own_set q j (own_i2b x) i)) ∧ ∀ target, Steps p.tables e below (T'.setTop { g with pc := g.pc + 1, stack := rest }) target → Steps p.tables e below (T.setTop g) target := by
  obtain ⟨cl, A, S, q1, H⟩ := F
  obtain ⟨T', h', X', e', W, st⟩ := stB X hx hZ eT A (inb_of S hj) hg hs hd
  refine ⟨T', h', X', e', W, (own_Arf.wr ⟨cl, A, S, q1, H⟩ W).fn fun i hi => ?_, st⟩
  simp only [own_set]; split <;> rfl
theorem own_stJ (X : Stand p l e R s m args below meth c T locs cells slots) (hx : p.tables.exec = Jvm.exec) (hZ : Z.Warmed39 s.vm) (eT : T.heap = h) {q : Nat → Int64} (F : own_Arf Z h a .long n (fun i => .long (q i))) (hj : ¬ j < 0 ∧ j < n) {x : Int64} (hg : g.method = m) (hs : g.stack = .long x :: .int j :: .ref a :: rest) (hd : decode c.code g.pc = .ok (.lastore, 1)) :
    ∃ T' h', Stand p l e R s m args below meth c T' (locs ++ [⟨a, j.toNatClampNeg⟩]) cells slots ∧ T'.heap = h' ∧ Wr h h' a j.toNatClampNeg (.long x) ∧ own_Arf Z h' a .long n (fun i => .long (own_set q j x i)) ∧ ∀ target, Steps p.tables e below (T'.setTop { g with pc := g.pc + 1, stack := rest }) target → Steps p.tables e below (T.setTop g) target := by
  obtain ⟨cl, A, S, q1, H⟩ := F
  obtain ⟨T', h', X', e', W, st⟩ := stJ X hx hZ eT A (inb_of S hj) hg hs hd
  refine ⟨T', h', X', e', W, (own_Arf.wr ⟨cl, A, S, q1, H⟩ W).fn fun i hi => ?_, st⟩
  simp only [own_set]; split <;> rfl
end OwnB
def own_QL (r : Option Value) (n0 : Nat) (v : Option Value) (h : Heap) (L : List Loc) : Prop := v = r ∧ Fr n0 L ∧ True
theorem own_ne_arf {Z : State} {h : Heap} {a b : Addr} {C : String} {ty : FieldType} {n : Int32} {f : Nat → Value} {a0 : Array Value} {k : Nat} (F : Exa Z h a C) (wi : (Cond.instantiable C k).before a0 Z = true) (G : own_Arf Z h b ty n f) : a ≠ b := by
  obtain ⟨c, A, -⟩ := G; exact ne_arr F wi A
def own_Two (a b : Slot) : Prop := (a = .unset ∧ b = .unset) ∨ ∃ x : Int64, a = .val (.long x) ∧ b = .second
theorem d1_0 : decode prog_56_method_1_code 0 = .ok (.aload_n 0, 1) := by decide +kernel
theorem d1_1 : decode prog_56_method_1_code 1 = .ok (.invokespecial 1, 3) := by decide +kernel
theorem d1_4 : decode prog_56_method_1_code 4 = .ok (.aload_n 0, 1) := by decide +kernel
theorem d1_5 : decode prog_56_method_1_code 5 = .ok (.lload_n 1, 1) := by decide +kernel
theorem d1_6 : decode prog_56_method_1_code 6 = .ok (.putfield 7, 3) := by decide +kernel
theorem d1_9 : decode prog_56_method_1_code 9 = .ok (.return_, 1) := by decide +kernel
theorem pn_1 : plainName "com/example/lockstep/lockstep/generate/SplitMix64" = true := by first | (simp [plainName, overriddenIn]; done) | decide +kernel
theorem ef_1 (m : MethodId) (r0 : Addr) (q1 : Int64) : entryFrame m #[(.ref r0), (.long q1)] 3 = mkF m 0 #[.val (.ref r0), .val (.long q1), .second] [] := by first | (simp [entryFrame, mkF, argsToLocals, Value.category]; done) | rfl
def rm1_room : Room := { frames := 1, cells := 0, slots := 0, locals := 12 }
def Qrm1 (Z : State) (r0 : Addr) (q1 : Int64) (x1 : Int64) (h0 : Heap) (n0 : Nat) (v : Option Value) (h : Heap) (L : List Loc) : Prop := v = none ∧ Fr n0 L ∧ Keep h0 h [r0] ∧ Exa Z h r0 "com/example/lockstep/lockstep/generate/SplitMix64" ∧ Fld Z h r0 "com/example/lockstep/lockstep/generate/SplitMix64" "state" "J" (.long q1)
set_option maxRecDepth 65536 in
set_option maxHeartbeats 40000000 in
theorem rm1 (l : Launch) (Z : State) (a0 : Array Value) (hw : ∀ d ∈ tables_1, d.before a0 Z = true) (ws : List Jvm.Cond) (r0 : Addr) (q1 : Int64) (x1 : Int64) (h0 : Heap) (n0 : Nat) (Z0 : n0 ≤ h0.size) (E_r0_0 : Exa Z h0 r0 "com/example/lockstep/lockstep/generate/SplitMix64") (F_state_r0_0 : Fld Z h0 r0 "com/example/lockstep/lockstep/generate/SplitMix64" "state" "J" (.long x1)) (ge_r0 : n0 ≤ r0) :
    MetFree l (⟨"com/example/lockstep/lockstep/generate/SplitMix64", "<init>", "(J)V"⟩ : MethodName) (head1 (Jvm.Cond.code (⟨"com/example/lockstep/lockstep/generate/SplitMix64", "<init>", "(J)V"⟩ : MethodName) prog_56_method_1_code 3 none :: ws) rm1_room) (fun a U => a = #[(.ref r0), (.long q1)] ∧ Z.Warmed39 U.vm ∧ U.heap = h0) (fun _ _ _ _ _ => True) (fun _ U o U' => ∃ v L, o = .returned v ∧ Qrm1 Z r0 q1 x1 h0 n0 v U'.heap L ∧ FrameEnd U o U' L rm1_room.cells rm1_room.slots) := by
  refine MetFree.of_bodySF (plainFor_of_name pn_1) hisR ?_
  intro p e s m args below meth c s₁ Bd hml0 hP hK
  obtain ⟨rfl, hZ, hh⟩ := hP
  have hx := Bd.exec
  have hby := Bd.bytes
  have hml : c.maxLocals = 3 := hml0
  have hown : s.vm.findClass "com/example/lockstep/lockstep/generate/SplitMix64" = some m.cls := findClass_of_methodNamed Bd.named
  have hnm := (name_of_methodNamed Bd.named Bd.method).1
  have hlk : meth.locks = false := BodyLoose.notSynchronized Bd
  have X0 : Stand p l e rm1_room s m #[(.ref r0), (.long q1)] below meth c s₁ [] 0 0 := Stand.of_body Bd
  have e0 : s₁.heap = h0 := by rw [← hh, Bd.state]; rfl
  have N0 := Fr.nil n0
  show own_Fin p.tables e below s (Qrm1 Z r0 q1 x1 h0 n0) rm1_room.cells rm1_room.slots (s₁.setTop (entryFrame m #[(.ref r0), (.long q1)] 3))
  rw [ef_1]
  show own_Fin _ _ _ _ _ _ _ (s₁.setTop (mkF m 0 #[.val (.ref r0), .val (.long q1), .second] []))
  have K0 := Keep.refl h0 [r0]
  refine own_go (fun _ k => XS.aloadN X0.here hx rfl (hb hby d1_0) rfl rfl k) ?_
  show own_Fin _ _ _ _ _ _ _ (s₁.setTop (mkF m 1 #[.val (.ref r0), .val (.long q1), .second] [(.ref r0)]))
  obtain ⟨T1, X1, e1, st1⟩ := initO X0 hx hZ hown (hw _ (List.mem_of_getElem? (i := 7) rfl)) (hw _ (List.mem_of_getElem? (i := 8) rfl)) (hw _ (List.mem_of_getElem? (i := 9) rfl)) e0 (g := (mkF m 1 #[.val (.ref r0), .val (.long q1), .second] [(.ref r0)])) rfl (by rw [hml]; rfl) rfl (hb hby d1_1) (by decide) (W := 0) (by show 2 * 0 + _ ≤ _; exact Nat.le_of_eq rfl) (by decide)
  refine own_go (fun tg k => st1 tg k) ?_
  show own_Fin _ _ _ _ _ _ _ (T1.setTop (mkF m 4 #[.val (.ref r0), .val (.long q1), .second] []))
  refine own_go (fun _ k => XS.aloadN X1.here hx rfl (hb hby d1_4) rfl rfl k) ?_
  show own_Fin _ _ _ _ _ _ _ (T1.setTop (mkF m 5 #[.val (.ref r0), .val (.long q1), .second] [(.ref r0)]))
  refine own_go (fun _ k => XS.lloadN X1.here hx rfl (hb hby d1_5) rfl k) ?_
  show own_Fin _ _ _ _ _ _ _ (T1.setTop (mkF m 6 #[.val (.ref r0), .val (.long q1), .second] [(.long q1), (.ref r0)]))
  obtain ⟨T2, h2, X2, e2, W2, st2⟩ := putF X1 hx hZ hown (host := "") (Or.inl (hw _ (List.mem_of_getElem? (i := 10) rfl))) Via.refl e1 F_state_r0_0 E_r0_0 (Or.inl (hw _ (List.mem_of_getElem? (i := 11) rfl))) (hw _ (List.mem_of_getElem? (i := 2) rfl)) (ty := .long) (by decide) rfl rfl (g := (mkF m 6 #[.val (.ref r0), .val (.long q1), .second] [(.long q1), (.ref r0)])) rfl rfl (hb hby d1_6)
  have E_r0_2 := E_r0_0.wr W2
  have K2 := K0.wr W2 (Or.inl (List.mem_of_getElem? (i := 0) rfl))
  have N2 := Fr.snoc X2 N0 ge_r0
  have Z2 : n0 ≤ h2.size := Nat.le_trans Z0 (Keep.of_wr W2).1
  have F_state_r0_2 := F_state_r0_0.same W2
  refine own_go (fun tg k => st2 tg k) ?_
  show own_Fin _ _ _ _ _ _ _ (T2.setTop (mkF m 9 #[.val (.ref r0), .val (.long q1), .second] []))
  refine own_retV X2 hx hlk Bd.returns (hb hby d1_9) (Nat.le_of_ble_eq_true rfl) (Nat.le_of_ble_eq_true rfl) ?_
  rw [e2]
  refine ⟨rfl, N2, K2, E_r0_2, ?_⟩
  · (exact F_state_r0_2)
theorem d3_0 : decode prog_56_method_2_code 0 = .ok (.aload_n 0, 1) := by decide +kernel
theorem d3_1 : decode prog_56_method_2_code 1 = .ok (.dup, 1) := by decide +kernel
theorem d3_2 : decode prog_56_method_2_code 2 = .ok (.getfield 7, 3) := by decide +kernel
theorem d3_5 : decode prog_56_method_2_code 5 = .ok (.ldc2_w 13, 3) := by decide +kernel
theorem d3_8 : decode prog_56_method_2_code 8 = .ok (.ladd, 1) := by decide +kernel
theorem d3_9 : decode prog_56_method_2_code 9 = .ok (.putfield 7, 3) := by decide +kernel
theorem d3_12 : decode prog_56_method_2_code 12 = .ok (.aload_n 0, 1) := by decide +kernel
theorem d3_13 : decode prog_56_method_2_code 13 = .ok (.getfield 7, 3) := by decide +kernel
theorem d3_16 : decode prog_56_method_2_code 16 = .ok (.lstore_n 1, 1) := by decide +kernel
theorem d3_17 : decode prog_56_method_2_code 17 = .ok (.lload_n 1, 1) := by decide +kernel
theorem d3_18 : decode prog_56_method_2_code 18 = .ok (.lload_n 1, 1) := by decide +kernel
theorem d3_19 : decode prog_56_method_2_code 19 = .ok (.bipush 30, 2) := by decide +kernel
theorem d3_21 : decode prog_56_method_2_code 21 = .ok (.lushr, 1) := by decide +kernel
theorem d3_22 : decode prog_56_method_2_code 22 = .ok (.lxor, 1) := by decide +kernel
theorem d3_23 : decode prog_56_method_2_code 23 = .ok (.ldc2_w 15, 3) := by decide +kernel
theorem d3_26 : decode prog_56_method_2_code 26 = .ok (.lmul, 1) := by decide +kernel
theorem d3_27 : decode prog_56_method_2_code 27 = .ok (.lstore_n 1, 1) := by decide +kernel
theorem d3_28 : decode prog_56_method_2_code 28 = .ok (.lload_n 1, 1) := by decide +kernel
theorem d3_29 : decode prog_56_method_2_code 29 = .ok (.lload_n 1, 1) := by decide +kernel
theorem d3_30 : decode prog_56_method_2_code 30 = .ok (.bipush 27, 2) := by decide +kernel
theorem d3_32 : decode prog_56_method_2_code 32 = .ok (.lushr, 1) := by decide +kernel
theorem d3_33 : decode prog_56_method_2_code 33 = .ok (.lxor, 1) := by decide +kernel
theorem d3_34 : decode prog_56_method_2_code 34 = .ok (.ldc2_w 17, 3) := by decide +kernel
theorem d3_37 : decode prog_56_method_2_code 37 = .ok (.lmul, 1) := by decide +kernel
theorem d3_38 : decode prog_56_method_2_code 38 = .ok (.lstore_n 1, 1) := by decide +kernel
theorem d3_39 : decode prog_56_method_2_code 39 = .ok (.lload_n 1, 1) := by decide +kernel
theorem d3_40 : decode prog_56_method_2_code 40 = .ok (.lload_n 1, 1) := by decide +kernel
theorem d3_41 : decode prog_56_method_2_code 41 = .ok (.bipush 31, 2) := by decide +kernel
theorem d3_43 : decode prog_56_method_2_code 43 = .ok (.lushr, 1) := by decide +kernel
theorem d3_44 : decode prog_56_method_2_code 44 = .ok (.lxor, 1) := by decide +kernel
theorem d3_45 : decode prog_56_method_2_code 45 = .ok (.lreturn, 1) := by decide +kernel
theorem pn_3 : plainName "com/example/lockstep/lockstep/generate/SplitMix64" = true := by first | (simp [plainName, overriddenIn]; done) | decide +kernel
theorem ef_3 (m : MethodId) (r0 : Addr) : entryFrame m #[(.ref r0)] 3 = mkF m 0 #[.val (.ref r0), .unset, .unset] [] := by first | (simp [entryFrame, mkF, argsToLocals, Value.category]; done) | rfl
def rm3_room : Room := { frames := 0, cells := 0, slots := 0, locals := 0 }
def own_f3 (x1 : Int64) : Int64 := let z4 := (x1 + (-7046029254386353131 : Int64)); let z5 := ((z4 ^^^ (own_lushr z4 (30 : Int32))) * (-4658895280553007687 : Int64)); let z6 := ((z5 ^^^ (own_lushr z5 (27 : Int32))) * (-7723592293110705685 : Int64)); (z6 ^^^ (own_lushr z6 (31 : Int32)))
def Qrm3 (Z : State) (r0 : Addr) (x1 : Int64) (h0 : Heap) (n0 : Nat) (v : Option Value) (h : Heap) (L : List Loc) : Prop := v = some (.long (own_f3 x1)) ∧ Fr n0 L ∧ Keep h0 h [r0] ∧ Exa Z h r0 "com/example/lockstep/lockstep/generate/SplitMix64" ∧ Fld Z h r0 "com/example/lockstep/lockstep/generate/SplitMix64" "state" "J" (.long (x1 + (-7046029254386353131 : Int64)))
set_option maxRecDepth 65536 in
set_option maxHeartbeats 40000000 in
theorem rm3 (l : Launch) (Z : State) (a0 : Array Value) (hw : ∀ d ∈ tables_1, d.before a0 Z = true) (ws : List Jvm.Cond) (r0 : Addr) (x1 : Int64) (h0 : Heap) (n0 : Nat) (Z0 : n0 ≤ h0.size) (E_r0_0 : Exa Z h0 r0 "com/example/lockstep/lockstep/generate/SplitMix64") (F_state_r0_0 : Fld Z h0 r0 "com/example/lockstep/lockstep/generate/SplitMix64" "state" "J" (.long x1)) (ge_r0 : n0 ≤ r0) :
    MetFree l (⟨"com/example/lockstep/lockstep/generate/SplitMix64", "nextLong", "()J"⟩ : MethodName) (head1 (Jvm.Cond.code (⟨"com/example/lockstep/lockstep/generate/SplitMix64", "nextLong", "()J"⟩ : MethodName) prog_56_method_2_code 3 (some .long) :: ws) rm3_room) (fun a U => a = #[(.ref r0)] ∧ Z.Warmed39 U.vm ∧ U.heap = h0) (fun _ _ _ _ _ => True) (fun _ U o U' => ∃ v L, o = .returned v ∧ Qrm3 Z r0 x1 h0 n0 v U'.heap L ∧ FrameEnd U o U' L rm3_room.cells rm3_room.slots) := by
  refine MetFree.of_bodySF (plainFor_of_name pn_3) hisR ?_
  intro p e s m args below meth c s₁ Bd hml0 hP hK
  obtain ⟨rfl, hZ, hh⟩ := hP
  have hx := Bd.exec
  have hby := Bd.bytes
  have hml : c.maxLocals = 3 := hml0
  have hown : s.vm.findClass "com/example/lockstep/lockstep/generate/SplitMix64" = some m.cls := findClass_of_methodNamed Bd.named
  have hnm := (name_of_methodNamed Bd.named Bd.method).1
  have hlk : meth.locks = false := BodyLoose.notSynchronized Bd
  have X0 : Stand p l e rm3_room s m #[(.ref r0)] below meth c s₁ [] 0 0 := Stand.of_body Bd
  have e0 : s₁.heap = h0 := by rw [← hh, Bd.state]; rfl
  have N0 := Fr.nil n0
  show own_Fin p.tables e below s (Qrm3 Z r0 x1 h0 n0) rm3_room.cells rm3_room.slots (s₁.setTop (entryFrame m #[(.ref r0)] 3))
  rw [ef_3]
  show own_Fin _ _ _ _ _ _ _ (s₁.setTop (mkF m 0 #[.val (.ref r0), .unset, .unset] []))
  have K0 := Keep.refl h0 [r0]
  refine own_go (fun _ k => XS.aloadN X0.here hx rfl (hb hby d3_0) rfl rfl k) ?_
  show own_Fin _ _ _ _ _ _ _ (s₁.setTop (mkF m 1 #[.val (.ref r0), .unset, .unset] [(.ref r0)]))
  refine own_go (fun _ k => XS.dup X0.here hx rfl (hb hby d3_1) rfl rfl k) ?_
  show own_Fin _ _ _ _ _ _ _ (s₁.setTop (mkF m 2 #[.val (.ref r0), .unset, .unset] [(.ref r0), (.ref r0)]))
  obtain ⟨T1, X1, e1, st1⟩ := getF X0 hx hZ hown (host := "") (Or.inl (hw _ (List.mem_of_getElem? (i := 10) rfl))) Via.refl e0 F_state_r0_0 (g := (mkF m 2 #[.val (.ref r0), .unset, .unset] [(.ref r0), (.ref r0)])) rfl rfl (hb hby d3_2)
  refine own_go (fun tg k => st1 tg k) ?_
  show own_Fin _ _ _ _ _ _ _ (T1.setTop (mkF m 5 #[.val (.ref r0), .unset, .unset] [(.long x1), (.ref r0)]))
  refine own_go (fun _ k => X1.ldc2Long hx hown (mvT hZ (hw _ (List.mem_of_getElem? (i := 17) rfl))) (g := (mkF m 5 #[.val (.ref r0), .unset, .unset] [(.long x1), (.ref r0)])) rfl (hb hby d3_5) _ k) ?_
  show own_Fin _ _ _ _ _ _ _ (T1.setTop (mkF m 8 #[.val (.ref r0), .unset, .unset] [(.long (-7046029254386353131 : Int64)), (.long x1), (.ref r0)]))
  refine own_go (fun _ k => XS.ladd X1.here hx rfl (hb hby d3_8) rfl k) ?_
  show own_Fin _ _ _ _ _ _ _ (T1.setTop (mkF m 9 #[.val (.ref r0), .unset, .unset] [(.long (x1 + (-7046029254386353131 : Int64))), (.ref r0)]))
  obtain ⟨T2, h2, X2, e2, W2, st2⟩ := putF X1 hx hZ hown (host := "") (Or.inl (hw _ (List.mem_of_getElem? (i := 10) rfl))) Via.refl e1 F_state_r0_0 E_r0_0 (Or.inl (hw _ (List.mem_of_getElem? (i := 11) rfl))) (hw _ (List.mem_of_getElem? (i := 2) rfl)) (ty := .long) (by decide) rfl rfl (g := (mkF m 9 #[.val (.ref r0), .unset, .unset] [(.long (x1 + (-7046029254386353131 : Int64))), (.ref r0)])) rfl rfl (hb hby d3_9)
  have E_r0_2 := E_r0_0.wr W2
  have K2 := K0.wr W2 (Or.inl (List.mem_of_getElem? (i := 0) rfl))
  have N2 := Fr.snoc X2 N0 ge_r0
  have Z2 : n0 ≤ h2.size := Nat.le_trans Z0 (Keep.of_wr W2).1
  have F_state_r0_2 := F_state_r0_0.same W2
  refine own_go (fun tg k => st2 tg k) ?_
  show own_Fin _ _ _ _ _ _ _ (T2.setTop (mkF m 12 #[.val (.ref r0), .unset, .unset] []))
  refine own_go (fun _ k => XS.aloadN X2.here hx rfl (hb hby d3_12) rfl rfl k) ?_
  show own_Fin _ _ _ _ _ _ _ (T2.setTop (mkF m 13 #[.val (.ref r0), .unset, .unset] [(.ref r0)]))
  obtain ⟨T3, X3, e3, st3⟩ := getF X2 hx hZ hown (host := "") (Or.inl (hw _ (List.mem_of_getElem? (i := 10) rfl))) Via.refl e2 F_state_r0_2 (g := (mkF m 13 #[.val (.ref r0), .unset, .unset] [(.ref r0)])) rfl rfl (hb hby d3_13)
  refine own_go (fun tg k => st3 tg k) ?_
  show own_Fin _ _ _ _ _ _ _ (T3.setTop (mkF m 16 #[.val (.ref r0), .unset, .unset] [(.long (x1 + (-7046029254386353131 : Int64)))]))
  refine own_go (fun _ k => XS.lstoreN X3.here hx rfl (hb hby d3_16) rfl (l' := #[.val (.ref r0), .val (.long (x1 + (-7046029254386353131 : Int64))), .second]) rfl k) ?_
  show own_Fin _ _ _ _ _ _ _ (T3.setTop (mkF m 17 #[.val (.ref r0), .val (.long (x1 + (-7046029254386353131 : Int64))), .second] []))
  generalize hz4 : (x1 + (-7046029254386353131 : Int64)) = z4
  show own_Fin _ _ _ _ _ _ _ (T3.setTop (mkF m 17 #[.val (.ref r0), .val (.long z4), .second] []))
  refine own_go (fun _ k => XS.lloadN X3.here hx rfl (hb hby d3_17) rfl k) ?_
  show own_Fin _ _ _ _ _ _ _ (T3.setTop (mkF m 18 #[.val (.ref r0), .val (.long z4), .second] [(.long z4)]))
  refine own_go (fun _ k => XS.lloadN X3.here hx rfl (hb hby d3_18) rfl k) ?_
  show own_Fin _ _ _ _ _ _ _ (T3.setTop (mkF m 19 #[.val (.ref r0), .val (.long z4), .second] [(.long z4), (.long z4)]))
  refine own_go (fun _ k => XS.bipush X3.here hx rfl (hb hby d3_19) k) ?_
  show own_Fin _ _ _ _ _ _ _ (T3.setTop (mkF m 21 #[.val (.ref r0), .val (.long z4), .second] [(.int (30 : Int32)), (.long z4), (.long z4)]))
  refine own_go (fun _ k => XS.lushr X3.here hx rfl (hb hby d3_21) rfl k) ?_
  show own_Fin _ _ _ _ _ _ _ (T3.setTop (mkF m 22 #[.val (.ref r0), .val (.long z4), .second] [(.long (own_lushr z4 (30 : Int32))), (.long z4)]))
  refine own_go (fun _ k => XS.lxor X3.here hx rfl (hb hby d3_22) rfl k) ?_
  show own_Fin _ _ _ _ _ _ _ (T3.setTop (mkF m 23 #[.val (.ref r0), .val (.long z4), .second] [(.long (z4 ^^^ (own_lushr z4 (30 : Int32))))]))
  refine own_go (fun _ k => X3.ldc2Long hx hown (mvT hZ (hw _ (List.mem_of_getElem? (i := 18) rfl))) (g := (mkF m 23 #[.val (.ref r0), .val (.long z4), .second] [(.long (z4 ^^^ (own_lushr z4 (30 : Int32))))])) rfl (hb hby d3_23) _ k) ?_
  show own_Fin _ _ _ _ _ _ _ (T3.setTop (mkF m 26 #[.val (.ref r0), .val (.long z4), .second] [(.long (-4658895280553007687 : Int64)), (.long (z4 ^^^ (own_lushr z4 (30 : Int32))))]))
  refine own_go (fun _ k => XS.lmul X3.here hx rfl (hb hby d3_26) rfl k) ?_
  show own_Fin _ _ _ _ _ _ _ (T3.setTop (mkF m 27 #[.val (.ref r0), .val (.long z4), .second] [(.long ((z4 ^^^ (own_lushr z4 (30 : Int32))) * (-4658895280553007687 : Int64)))]))
  refine own_go (fun _ k => XS.lstoreN X3.here hx rfl (hb hby d3_27) rfl (l' := #[.val (.ref r0), .val (.long ((z4 ^^^ (own_lushr z4 (30 : Int32))) * (-4658895280553007687 : Int64))), .second]) rfl k) ?_
  show own_Fin _ _ _ _ _ _ _ (T3.setTop (mkF m 28 #[.val (.ref r0), .val (.long ((z4 ^^^ (own_lushr z4 (30 : Int32))) * (-4658895280553007687 : Int64))), .second] []))
  generalize hz5 : ((z4 ^^^ (own_lushr z4 (30 : Int32))) * (-4658895280553007687 : Int64)) = z5
  show own_Fin _ _ _ _ _ _ _ (T3.setTop (mkF m 28 #[.val (.ref r0), .val (.long z5), .second] []))
  refine own_go (fun _ k => XS.lloadN X3.here hx rfl (hb hby d3_28) rfl k) ?_
  show own_Fin _ _ _ _ _ _ _ (T3.setTop (mkF m 29 #[.val (.ref r0), .val (.long z5), .second] [(.long z5)]))
  refine own_go (fun _ k => XS.lloadN X3.here hx rfl (hb hby d3_29) rfl k) ?_
  show own_Fin _ _ _ _ _ _ _ (T3.setTop (mkF m 30 #[.val (.ref r0), .val (.long z5), .second] [(.long z5), (.long z5)]))
  refine own_go (fun _ k => XS.bipush X3.here hx rfl (hb hby d3_30) k) ?_
  show own_Fin _ _ _ _ _ _ _ (T3.setTop (mkF m 32 #[.val (.ref r0), .val (.long z5), .second] [(.int (27 : Int32)), (.long z5), (.long z5)]))
  refine own_go (fun _ k => XS.lushr X3.here hx rfl (hb hby d3_32) rfl k) ?_
  show own_Fin _ _ _ _ _ _ _ (T3.setTop (mkF m 33 #[.val (.ref r0), .val (.long z5), .second] [(.long (own_lushr z5 (27 : Int32))), (.long z5)]))
  refine own_go (fun _ k => XS.lxor X3.here hx rfl (hb hby d3_33) rfl k) ?_
  show own_Fin _ _ _ _ _ _ _ (T3.setTop (mkF m 34 #[.val (.ref r0), .val (.long z5), .second] [(.long (z5 ^^^ (own_lushr z5 (27 : Int32))))]))
  refine own_go (fun _ k => X3.ldc2Long hx hown (mvT hZ (hw _ (List.mem_of_getElem? (i := 19) rfl))) (g := (mkF m 34 #[.val (.ref r0), .val (.long z5), .second] [(.long (z5 ^^^ (own_lushr z5 (27 : Int32))))])) rfl (hb hby d3_34) _ k) ?_
  show own_Fin _ _ _ _ _ _ _ (T3.setTop (mkF m 37 #[.val (.ref r0), .val (.long z5), .second] [(.long (-7723592293110705685 : Int64)), (.long (z5 ^^^ (own_lushr z5 (27 : Int32))))]))
  refine own_go (fun _ k => XS.lmul X3.here hx rfl (hb hby d3_37) rfl k) ?_
  show own_Fin _ _ _ _ _ _ _ (T3.setTop (mkF m 38 #[.val (.ref r0), .val (.long z5), .second] [(.long ((z5 ^^^ (own_lushr z5 (27 : Int32))) * (-7723592293110705685 : Int64)))]))
  refine own_go (fun _ k => XS.lstoreN X3.here hx rfl (hb hby d3_38) rfl (l' := #[.val (.ref r0), .val (.long ((z5 ^^^ (own_lushr z5 (27 : Int32))) * (-7723592293110705685 : Int64))), .second]) rfl k) ?_
  show own_Fin _ _ _ _ _ _ _ (T3.setTop (mkF m 39 #[.val (.ref r0), .val (.long ((z5 ^^^ (own_lushr z5 (27 : Int32))) * (-7723592293110705685 : Int64))), .second] []))
  generalize hz6 : ((z5 ^^^ (own_lushr z5 (27 : Int32))) * (-7723592293110705685 : Int64)) = z6
  show own_Fin _ _ _ _ _ _ _ (T3.setTop (mkF m 39 #[.val (.ref r0), .val (.long z6), .second] []))
  refine own_go (fun _ k => XS.lloadN X3.here hx rfl (hb hby d3_39) rfl k) ?_
  show own_Fin _ _ _ _ _ _ _ (T3.setTop (mkF m 40 #[.val (.ref r0), .val (.long z6), .second] [(.long z6)]))
  refine own_go (fun _ k => XS.lloadN X3.here hx rfl (hb hby d3_40) rfl k) ?_
  show own_Fin _ _ _ _ _ _ _ (T3.setTop (mkF m 41 #[.val (.ref r0), .val (.long z6), .second] [(.long z6), (.long z6)]))
  refine own_go (fun _ k => XS.bipush X3.here hx rfl (hb hby d3_41) k) ?_
  show own_Fin _ _ _ _ _ _ _ (T3.setTop (mkF m 43 #[.val (.ref r0), .val (.long z6), .second] [(.int (31 : Int32)), (.long z6), (.long z6)]))
  refine own_go (fun _ k => XS.lushr X3.here hx rfl (hb hby d3_43) rfl k) ?_
  show own_Fin _ _ _ _ _ _ _ (T3.setTop (mkF m 44 #[.val (.ref r0), .val (.long z6), .second] [(.long (own_lushr z6 (31 : Int32))), (.long z6)]))
  refine own_go (fun _ k => XS.lxor X3.here hx rfl (hb hby d3_44) rfl k) ?_
  show own_Fin _ _ _ _ _ _ _ (T3.setTop (mkF m 45 #[.val (.ref r0), .val (.long z6), .second] [(.long (z6 ^^^ (own_lushr z6 (31 : Int32))))]))
  refine own_ret X3 hx hlk Bd.returns rfl (Or.inr (Or.inl ⟨rfl, rfl, _, rfl⟩)) (hb hby d3_45) (Nat.le_of_ble_eq_true rfl) (Nat.le_of_ble_eq_true rfl) ?_
  try subst hz6
  try subst hz5
  try subst hz4
  rw [e3]
  refine ⟨?_, N2, K2, E_r0_2, ?_⟩
  · first | rfl | (simp only [own_f3]; done) | (simp only [own_f3]; rfl)
  · (exact F_state_r0_2)
theorem d5_0 : decode method_2_code 0 = .ok (.lload_n 0, 1) := by decide +kernel
theorem d5_1 : decode method_2_code 1 = .ok (.lstore_n 2, 1) := by decide +kernel
theorem d5_2 : decode method_2_code 2 = .ok (.lload_n 2, 1) := by decide +kernel
theorem d5_3 : decode method_2_code 3 = .ok (.ldc2_w 7, 3) := by decide +kernel
theorem d5_6 : decode method_2_code 6 = .ok (.lload_n 0, 1) := by decide +kernel
theorem d5_7 : decode method_2_code 7 = .ok (.lload_n 2, 1) := by decide +kernel
theorem d5_8 : decode method_2_code 8 = .ok (.lmul, 1) := by decide +kernel
theorem d5_9 : decode method_2_code 9 = .ok (.lsub, 1) := by decide +kernel
theorem d5_10 : decode method_2_code 10 = .ok (.lmul, 1) := by decide +kernel
theorem d5_11 : decode method_2_code 11 = .ok (.lstore_n 2, 1) := by decide +kernel
theorem d5_12 : decode method_2_code 12 = .ok (.lload_n 2, 1) := by decide +kernel
theorem d5_13 : decode method_2_code 13 = .ok (.ldc2_w 7, 3) := by decide +kernel
theorem d5_16 : decode method_2_code 16 = .ok (.lload_n 0, 1) := by decide +kernel
theorem d5_17 : decode method_2_code 17 = .ok (.lload_n 2, 1) := by decide +kernel
theorem d5_18 : decode method_2_code 18 = .ok (.lmul, 1) := by decide +kernel
theorem d5_19 : decode method_2_code 19 = .ok (.lsub, 1) := by decide +kernel
theorem d5_20 : decode method_2_code 20 = .ok (.lmul, 1) := by decide +kernel
theorem d5_21 : decode method_2_code 21 = .ok (.lstore_n 2, 1) := by decide +kernel
theorem d5_22 : decode method_2_code 22 = .ok (.lload_n 2, 1) := by decide +kernel
theorem d5_23 : decode method_2_code 23 = .ok (.ldc2_w 7, 3) := by decide +kernel
theorem d5_26 : decode method_2_code 26 = .ok (.lload_n 0, 1) := by decide +kernel
theorem d5_27 : decode method_2_code 27 = .ok (.lload_n 2, 1) := by decide +kernel
theorem d5_28 : decode method_2_code 28 = .ok (.lmul, 1) := by decide +kernel
theorem d5_29 : decode method_2_code 29 = .ok (.lsub, 1) := by decide +kernel
theorem d5_30 : decode method_2_code 30 = .ok (.lmul, 1) := by decide +kernel
theorem d5_31 : decode method_2_code 31 = .ok (.lstore_n 2, 1) := by decide +kernel
theorem d5_32 : decode method_2_code 32 = .ok (.lload_n 2, 1) := by decide +kernel
theorem d5_33 : decode method_2_code 33 = .ok (.ldc2_w 7, 3) := by decide +kernel
theorem d5_36 : decode method_2_code 36 = .ok (.lload_n 0, 1) := by decide +kernel
theorem d5_37 : decode method_2_code 37 = .ok (.lload_n 2, 1) := by decide +kernel
theorem d5_38 : decode method_2_code 38 = .ok (.lmul, 1) := by decide +kernel
theorem d5_39 : decode method_2_code 39 = .ok (.lsub, 1) := by decide +kernel
theorem d5_40 : decode method_2_code 40 = .ok (.lmul, 1) := by decide +kernel
theorem d5_41 : decode method_2_code 41 = .ok (.lstore_n 2, 1) := by decide +kernel
theorem d5_42 : decode method_2_code 42 = .ok (.lload_n 2, 1) := by decide +kernel
theorem d5_43 : decode method_2_code 43 = .ok (.ldc2_w 7, 3) := by decide +kernel
theorem d5_46 : decode method_2_code 46 = .ok (.lload_n 0, 1) := by decide +kernel
theorem d5_47 : decode method_2_code 47 = .ok (.lload_n 2, 1) := by decide +kernel
theorem d5_48 : decode method_2_code 48 = .ok (.lmul, 1) := by decide +kernel
theorem d5_49 : decode method_2_code 49 = .ok (.lsub, 1) := by decide +kernel
theorem d5_50 : decode method_2_code 50 = .ok (.lmul, 1) := by decide +kernel
theorem d5_51 : decode method_2_code 51 = .ok (.lstore_n 2, 1) := by decide +kernel
theorem d5_52 : decode method_2_code 52 = .ok (.lload_n 2, 1) := by decide +kernel
theorem d5_53 : decode method_2_code 53 = .ok (.lreturn, 1) := by decide +kernel
theorem pn_5 : plainName "com/example/lockstep/lockstep/generate/SplitMix64NextLongPinLaw" = true := by first | (simp [plainName, overriddenIn]; done) | decide +kernel
theorem ef_5 (m : MethodId) (q0 : Int64) : entryFrame m #[(.long q0)] 4 = mkF m 0 #[.val (.long q0), .second, .unset, .unset] [] := by first | (simp [entryFrame, mkF, argsToLocals, Value.category]; done) | rfl
def own_rm5_room : Room := { frames := 0, cells := 0, slots := 0, locals := 0 }
def own_f5 (q0 : Int64) : Int64 := let z1 := (q0 * ((2 : Int64) - (q0 * q0))); let z2 := (z1 * ((2 : Int64) - (q0 * z1))); let z3 := (z2 * ((2 : Int64) - (q0 * z2))); let z4 := (z3 * ((2 : Int64) - (q0 * z3))); let z5 := (z4 * ((2 : Int64) - (q0 * z4))); z5
set_option maxRecDepth 65536 in
set_option maxHeartbeats 40000000 in
theorem rm5 (l : Launch) (Z : State) (a0 : Array Value) (hw : ∀ d ∈ tables_1, d.before a0 Z = true) (ws : List Jvm.Cond) (q0 : Int64) (h0 : Heap) (n0 : Nat) (Z0 : n0 ≤ h0.size) :
    MetFree l (⟨"com/example/lockstep/lockstep/generate/SplitMix64NextLongPinLaw", "inverse", "(J)J"⟩ : MethodName) (head1 (Jvm.Cond.code (⟨"com/example/lockstep/lockstep/generate/SplitMix64NextLongPinLaw", "inverse", "(J)J"⟩ : MethodName) method_2_code 4 (some .long) :: ws) own_rm5_room) (fun a U => a = #[(.long q0)] ∧ Z.Warmed39 U.vm ∧ U.heap = h0) (fun _ _ _ _ _ => True) (fun _ U o U' => ∃ v L, o = .returned v ∧ own_QP (some (.long (own_f5 q0))) h0 n0 v U'.heap L ∧ FrameEnd U o U' L own_rm5_room.cells own_rm5_room.slots) := by
  refine MetFree.of_bodySF (plainFor_of_name pn_5) hisR ?_
  intro p e s m args below meth c s₁ Bd hml0 hP hK
  obtain ⟨rfl, hZ, hh⟩ := hP
  have hx := Bd.exec
  have hby := Bd.bytes
  have hml : c.maxLocals = 4 := hml0
  have hown : s.vm.findClass "com/example/lockstep/lockstep/generate/SplitMix64NextLongPinLaw" = some m.cls := findClass_of_methodNamed Bd.named
  have hnm := (name_of_methodNamed Bd.named Bd.method).1
  have hlk : meth.locks = false := BodyLoose.notSynchronized Bd
  have X0 : Stand p l e own_rm5_room s m #[(.long q0)] below meth c s₁ [] 0 0 := Stand.of_body Bd
  have e0 : s₁.heap = h0 := by rw [← hh, Bd.state]; rfl
  have N0 := Fr.nil n0
  show own_Fin p.tables e below s (own_QP (some (.long (own_f5 q0))) h0 n0) own_rm5_room.cells own_rm5_room.slots (s₁.setTop (entryFrame m #[(.long q0)] 4))
  rw [ef_5]
  show own_Fin _ _ _ _ _ _ _ (s₁.setTop (mkF m 0 #[.val (.long q0), .second, .unset, .unset] []))
  refine own_go (fun _ k => XS.lloadN X0.here hx rfl (hb hby d5_0) rfl k) ?_
  show own_Fin _ _ _ _ _ _ _ (s₁.setTop (mkF m 1 #[.val (.long q0), .second, .unset, .unset] [(.long q0)]))
  refine own_go (fun _ k => XS.lstoreN X0.here hx rfl (hb hby d5_1) rfl (l' := #[.val (.long q0), .second, .val (.long q0), .second]) rfl k) ?_
  show own_Fin _ _ _ _ _ _ _ (s₁.setTop (mkF m 2 #[.val (.long q0), .second, .val (.long q0), .second] []))
  refine own_go (fun _ k => XS.lloadN X0.here hx rfl (hb hby d5_2) rfl k) ?_
  show own_Fin _ _ _ _ _ _ _ (s₁.setTop (mkF m 3 #[.val (.long q0), .second, .val (.long q0), .second] [(.long q0)]))
  refine own_go (fun _ k => X0.ldc2Long hx hown (mvT hZ (hw _ (List.mem_of_getElem? (i := 29) rfl))) (g := (mkF m 3 #[.val (.long q0), .second, .val (.long q0), .second] [(.long q0)])) rfl (hb hby d5_3) _ k) ?_
  show own_Fin _ _ _ _ _ _ _ (s₁.setTop (mkF m 6 #[.val (.long q0), .second, .val (.long q0), .second] [(.long (2 : Int64)), (.long q0)]))
  refine own_go (fun _ k => XS.lloadN X0.here hx rfl (hb hby d5_6) rfl k) ?_
  show own_Fin _ _ _ _ _ _ _ (s₁.setTop (mkF m 7 #[.val (.long q0), .second, .val (.long q0), .second] [(.long q0), (.long (2 : Int64)), (.long q0)]))
  refine own_go (fun _ k => XS.lloadN X0.here hx rfl (hb hby d5_7) rfl k) ?_
  show own_Fin _ _ _ _ _ _ _ (s₁.setTop (mkF m 8 #[.val (.long q0), .second, .val (.long q0), .second] [(.long q0), (.long q0), (.long (2 : Int64)), (.long q0)]))
  refine own_go (fun _ k => XS.lmul X0.here hx rfl (hb hby d5_8) rfl k) ?_
  show own_Fin _ _ _ _ _ _ _ (s₁.setTop (mkF m 9 #[.val (.long q0), .second, .val (.long q0), .second] [(.long (q0 * q0)), (.long (2 : Int64)), (.long q0)]))
  refine own_go (fun _ k => XS.lsub X0.here hx rfl (hb hby d5_9) rfl k) ?_
  show own_Fin _ _ _ _ _ _ _ (s₁.setTop (mkF m 10 #[.val (.long q0), .second, .val (.long q0), .second] [(.long ((2 : Int64) - (q0 * q0))), (.long q0)]))
  refine own_go (fun _ k => XS.lmul X0.here hx rfl (hb hby d5_10) rfl k) ?_
  show own_Fin _ _ _ _ _ _ _ (s₁.setTop (mkF m 11 #[.val (.long q0), .second, .val (.long q0), .second] [(.long (q0 * ((2 : Int64) - (q0 * q0))))]))
  refine own_go (fun _ k => XS.lstoreN X0.here hx rfl (hb hby d5_11) rfl (l' := #[.val (.long q0), .second, .val (.long (q0 * ((2 : Int64) - (q0 * q0)))), .second]) rfl k) ?_
  show own_Fin _ _ _ _ _ _ _ (s₁.setTop (mkF m 12 #[.val (.long q0), .second, .val (.long (q0 * ((2 : Int64) - (q0 * q0)))), .second] []))
  generalize hz1 : (q0 * ((2 : Int64) - (q0 * q0))) = z1
  show own_Fin _ _ _ _ _ _ _ (s₁.setTop (mkF m 12 #[.val (.long q0), .second, .val (.long z1), .second] []))
  refine own_go (fun _ k => XS.lloadN X0.here hx rfl (hb hby d5_12) rfl k) ?_
  show own_Fin _ _ _ _ _ _ _ (s₁.setTop (mkF m 13 #[.val (.long q0), .second, .val (.long z1), .second] [(.long z1)]))
  refine own_go (fun _ k => X0.ldc2Long hx hown (mvT hZ (hw _ (List.mem_of_getElem? (i := 29) rfl))) (g := (mkF m 13 #[.val (.long q0), .second, .val (.long z1), .second] [(.long z1)])) rfl (hb hby d5_13) _ k) ?_
  show own_Fin _ _ _ _ _ _ _ (s₁.setTop (mkF m 16 #[.val (.long q0), .second, .val (.long z1), .second] [(.long (2 : Int64)), (.long z1)]))
  refine own_go (fun _ k => XS.lloadN X0.here hx rfl (hb hby d5_16) rfl k) ?_
  show own_Fin _ _ _ _ _ _ _ (s₁.setTop (mkF m 17 #[.val (.long q0), .second, .val (.long z1), .second] [(.long q0), (.long (2 : Int64)), (.long z1)]))
  refine own_go (fun _ k => XS.lloadN X0.here hx rfl (hb hby d5_17) rfl k) ?_
  show own_Fin _ _ _ _ _ _ _ (s₁.setTop (mkF m 18 #[.val (.long q0), .second, .val (.long z1), .second] [(.long z1), (.long q0), (.long (2 : Int64)), (.long z1)]))
  refine own_go (fun _ k => XS.lmul X0.here hx rfl (hb hby d5_18) rfl k) ?_
  show own_Fin _ _ _ _ _ _ _ (s₁.setTop (mkF m 19 #[.val (.long q0), .second, .val (.long z1), .second] [(.long (q0 * z1)), (.long (2 : Int64)), (.long z1)]))
  refine own_go (fun _ k => XS.lsub X0.here hx rfl (hb hby d5_19) rfl k) ?_
  show own_Fin _ _ _ _ _ _ _ (s₁.setTop (mkF m 20 #[.val (.long q0), .second, .val (.long z1), .second] [(.long ((2 : Int64) - (q0 * z1))), (.long z1)]))
  refine own_go (fun _ k => XS.lmul X0.here hx rfl (hb hby d5_20) rfl k) ?_
  show own_Fin _ _ _ _ _ _ _ (s₁.setTop (mkF m 21 #[.val (.long q0), .second, .val (.long z1), .second] [(.long (z1 * ((2 : Int64) - (q0 * z1))))]))
  refine own_go (fun _ k => XS.lstoreN X0.here hx rfl (hb hby d5_21) rfl (l' := #[.val (.long q0), .second, .val (.long (z1 * ((2 : Int64) - (q0 * z1)))), .second]) rfl k) ?_
  show own_Fin _ _ _ _ _ _ _ (s₁.setTop (mkF m 22 #[.val (.long q0), .second, .val (.long (z1 * ((2 : Int64) - (q0 * z1)))), .second] []))
  generalize hz2 : (z1 * ((2 : Int64) - (q0 * z1))) = z2
  show own_Fin _ _ _ _ _ _ _ (s₁.setTop (mkF m 22 #[.val (.long q0), .second, .val (.long z2), .second] []))
  refine own_go (fun _ k => XS.lloadN X0.here hx rfl (hb hby d5_22) rfl k) ?_
  show own_Fin _ _ _ _ _ _ _ (s₁.setTop (mkF m 23 #[.val (.long q0), .second, .val (.long z2), .second] [(.long z2)]))
  refine own_go (fun _ k => X0.ldc2Long hx hown (mvT hZ (hw _ (List.mem_of_getElem? (i := 29) rfl))) (g := (mkF m 23 #[.val (.long q0), .second, .val (.long z2), .second] [(.long z2)])) rfl (hb hby d5_23) _ k) ?_
  show own_Fin _ _ _ _ _ _ _ (s₁.setTop (mkF m 26 #[.val (.long q0), .second, .val (.long z2), .second] [(.long (2 : Int64)), (.long z2)]))
  refine own_go (fun _ k => XS.lloadN X0.here hx rfl (hb hby d5_26) rfl k) ?_
  show own_Fin _ _ _ _ _ _ _ (s₁.setTop (mkF m 27 #[.val (.long q0), .second, .val (.long z2), .second] [(.long q0), (.long (2 : Int64)), (.long z2)]))
  refine own_go (fun _ k => XS.lloadN X0.here hx rfl (hb hby d5_27) rfl k) ?_
  show own_Fin _ _ _ _ _ _ _ (s₁.setTop (mkF m 28 #[.val (.long q0), .second, .val (.long z2), .second] [(.long z2), (.long q0), (.long (2 : Int64)), (.long z2)]))
  refine own_go (fun _ k => XS.lmul X0.here hx rfl (hb hby d5_28) rfl k) ?_
  show own_Fin _ _ _ _ _ _ _ (s₁.setTop (mkF m 29 #[.val (.long q0), .second, .val (.long z2), .second] [(.long (q0 * z2)), (.long (2 : Int64)), (.long z2)]))
  refine own_go (fun _ k => XS.lsub X0.here hx rfl (hb hby d5_29) rfl k) ?_
  show own_Fin _ _ _ _ _ _ _ (s₁.setTop (mkF m 30 #[.val (.long q0), .second, .val (.long z2), .second] [(.long ((2 : Int64) - (q0 * z2))), (.long z2)]))
  refine own_go (fun _ k => XS.lmul X0.here hx rfl (hb hby d5_30) rfl k) ?_
  show own_Fin _ _ _ _ _ _ _ (s₁.setTop (mkF m 31 #[.val (.long q0), .second, .val (.long z2), .second] [(.long (z2 * ((2 : Int64) - (q0 * z2))))]))
  refine own_go (fun _ k => XS.lstoreN X0.here hx rfl (hb hby d5_31) rfl (l' := #[.val (.long q0), .second, .val (.long (z2 * ((2 : Int64) - (q0 * z2)))), .second]) rfl k) ?_
  show own_Fin _ _ _ _ _ _ _ (s₁.setTop (mkF m 32 #[.val (.long q0), .second, .val (.long (z2 * ((2 : Int64) - (q0 * z2)))), .second] []))
  generalize hz3 : (z2 * ((2 : Int64) - (q0 * z2))) = z3
  show own_Fin _ _ _ _ _ _ _ (s₁.setTop (mkF m 32 #[.val (.long q0), .second, .val (.long z3), .second] []))
  refine own_go (fun _ k => XS.lloadN X0.here hx rfl (hb hby d5_32) rfl k) ?_
  show own_Fin _ _ _ _ _ _ _ (s₁.setTop (mkF m 33 #[.val (.long q0), .second, .val (.long z3), .second] [(.long z3)]))
  refine own_go (fun _ k => X0.ldc2Long hx hown (mvT hZ (hw _ (List.mem_of_getElem? (i := 29) rfl))) (g := (mkF m 33 #[.val (.long q0), .second, .val (.long z3), .second] [(.long z3)])) rfl (hb hby d5_33) _ k) ?_
  show own_Fin _ _ _ _ _ _ _ (s₁.setTop (mkF m 36 #[.val (.long q0), .second, .val (.long z3), .second] [(.long (2 : Int64)), (.long z3)]))
  refine own_go (fun _ k => XS.lloadN X0.here hx rfl (hb hby d5_36) rfl k) ?_
  show own_Fin _ _ _ _ _ _ _ (s₁.setTop (mkF m 37 #[.val (.long q0), .second, .val (.long z3), .second] [(.long q0), (.long (2 : Int64)), (.long z3)]))
  refine own_go (fun _ k => XS.lloadN X0.here hx rfl (hb hby d5_37) rfl k) ?_
  show own_Fin _ _ _ _ _ _ _ (s₁.setTop (mkF m 38 #[.val (.long q0), .second, .val (.long z3), .second] [(.long z3), (.long q0), (.long (2 : Int64)), (.long z3)]))
  refine own_go (fun _ k => XS.lmul X0.here hx rfl (hb hby d5_38) rfl k) ?_
  show own_Fin _ _ _ _ _ _ _ (s₁.setTop (mkF m 39 #[.val (.long q0), .second, .val (.long z3), .second] [(.long (q0 * z3)), (.long (2 : Int64)), (.long z3)]))
  refine own_go (fun _ k => XS.lsub X0.here hx rfl (hb hby d5_39) rfl k) ?_
  show own_Fin _ _ _ _ _ _ _ (s₁.setTop (mkF m 40 #[.val (.long q0), .second, .val (.long z3), .second] [(.long ((2 : Int64) - (q0 * z3))), (.long z3)]))
  refine own_go (fun _ k => XS.lmul X0.here hx rfl (hb hby d5_40) rfl k) ?_
  show own_Fin _ _ _ _ _ _ _ (s₁.setTop (mkF m 41 #[.val (.long q0), .second, .val (.long z3), .second] [(.long (z3 * ((2 : Int64) - (q0 * z3))))]))
  refine own_go (fun _ k => XS.lstoreN X0.here hx rfl (hb hby d5_41) rfl (l' := #[.val (.long q0), .second, .val (.long (z3 * ((2 : Int64) - (q0 * z3)))), .second]) rfl k) ?_
  show own_Fin _ _ _ _ _ _ _ (s₁.setTop (mkF m 42 #[.val (.long q0), .second, .val (.long (z3 * ((2 : Int64) - (q0 * z3)))), .second] []))
  generalize hz4 : (z3 * ((2 : Int64) - (q0 * z3))) = z4
  show own_Fin _ _ _ _ _ _ _ (s₁.setTop (mkF m 42 #[.val (.long q0), .second, .val (.long z4), .second] []))
  refine own_go (fun _ k => XS.lloadN X0.here hx rfl (hb hby d5_42) rfl k) ?_
  show own_Fin _ _ _ _ _ _ _ (s₁.setTop (mkF m 43 #[.val (.long q0), .second, .val (.long z4), .second] [(.long z4)]))
  refine own_go (fun _ k => X0.ldc2Long hx hown (mvT hZ (hw _ (List.mem_of_getElem? (i := 29) rfl))) (g := (mkF m 43 #[.val (.long q0), .second, .val (.long z4), .second] [(.long z4)])) rfl (hb hby d5_43) _ k) ?_
  show own_Fin _ _ _ _ _ _ _ (s₁.setTop (mkF m 46 #[.val (.long q0), .second, .val (.long z4), .second] [(.long (2 : Int64)), (.long z4)]))
  refine own_go (fun _ k => XS.lloadN X0.here hx rfl (hb hby d5_46) rfl k) ?_
  show own_Fin _ _ _ _ _ _ _ (s₁.setTop (mkF m 47 #[.val (.long q0), .second, .val (.long z4), .second] [(.long q0), (.long (2 : Int64)), (.long z4)]))
  refine own_go (fun _ k => XS.lloadN X0.here hx rfl (hb hby d5_47) rfl k) ?_
  show own_Fin _ _ _ _ _ _ _ (s₁.setTop (mkF m 48 #[.val (.long q0), .second, .val (.long z4), .second] [(.long z4), (.long q0), (.long (2 : Int64)), (.long z4)]))
  refine own_go (fun _ k => XS.lmul X0.here hx rfl (hb hby d5_48) rfl k) ?_
  show own_Fin _ _ _ _ _ _ _ (s₁.setTop (mkF m 49 #[.val (.long q0), .second, .val (.long z4), .second] [(.long (q0 * z4)), (.long (2 : Int64)), (.long z4)]))
  refine own_go (fun _ k => XS.lsub X0.here hx rfl (hb hby d5_49) rfl k) ?_
  show own_Fin _ _ _ _ _ _ _ (s₁.setTop (mkF m 50 #[.val (.long q0), .second, .val (.long z4), .second] [(.long ((2 : Int64) - (q0 * z4))), (.long z4)]))
  refine own_go (fun _ k => XS.lmul X0.here hx rfl (hb hby d5_50) rfl k) ?_
  show own_Fin _ _ _ _ _ _ _ (s₁.setTop (mkF m 51 #[.val (.long q0), .second, .val (.long z4), .second] [(.long (z4 * ((2 : Int64) - (q0 * z4))))]))
  refine own_go (fun _ k => XS.lstoreN X0.here hx rfl (hb hby d5_51) rfl (l' := #[.val (.long q0), .second, .val (.long (z4 * ((2 : Int64) - (q0 * z4)))), .second]) rfl k) ?_
  show own_Fin _ _ _ _ _ _ _ (s₁.setTop (mkF m 52 #[.val (.long q0), .second, .val (.long (z4 * ((2 : Int64) - (q0 * z4)))), .second] []))
  generalize hz5 : (z4 * ((2 : Int64) - (q0 * z4))) = z5
  show own_Fin _ _ _ _ _ _ _ (s₁.setTop (mkF m 52 #[.val (.long q0), .second, .val (.long z5), .second] []))
  refine own_go (fun _ k => XS.lloadN X0.here hx rfl (hb hby d5_52) rfl k) ?_
  show own_Fin _ _ _ _ _ _ _ (s₁.setTop (mkF m 53 #[.val (.long q0), .second, .val (.long z5), .second] [(.long z5)]))
  refine own_ret X0 hx hlk Bd.returns rfl (Or.inr (Or.inl ⟨rfl, rfl, _, rfl⟩)) (hb hby d5_53) (Nat.le_of_ble_eq_true rfl) (Nat.le_of_ble_eq_true rfl) ?_
  refine ⟨?_, N0, e0⟩
  try subst hz5
  try subst hz4
  try subst hz3
  try subst hz2
  try subst hz1
  first | rfl | (simp only [own_f5]; done) | (simp only [own_f5]; rfl)
theorem own_pd84 : parseMethodDescriptor "(J)J" = some ⟨[.long], some .long⟩ := by decide +kernel
theorem d4_0 : decode method_3_code 0 = .ok (.ldc2_w 9, 3) := by decide +kernel
theorem d4_3 : decode method_3_code 3 = .ok (.lstore_n 2, 1) := by decide +kernel
theorem d4_4 : decode method_3_code 4 = .ok (.ldc2_w 11, 3) := by decide +kernel
theorem d4_7 : decode method_3_code 7 = .ok (.lstore 4, 2) := by decide +kernel
theorem d4_9 : decode method_3_code 9 = .ok (.lload_n 0, 1) := by decide +kernel
theorem d4_10 : decode method_3_code 10 = .ok (.lload_n 0, 1) := by decide +kernel
theorem d4_11 : decode method_3_code 11 = .ok (.bipush 31, 2) := by decide +kernel
theorem d4_13 : decode method_3_code 13 = .ok (.lushr, 1) := by decide +kernel
theorem d4_14 : decode method_3_code 14 = .ok (.lxor, 1) := by decide +kernel
theorem d4_15 : decode method_3_code 15 = .ok (.lload_n 0, 1) := by decide +kernel
theorem d4_16 : decode method_3_code 16 = .ok (.bipush 62, 2) := by decide +kernel
theorem d4_18 : decode method_3_code 18 = .ok (.lushr, 1) := by decide +kernel
theorem d4_19 : decode method_3_code 19 = .ok (.lxor, 1) := by decide +kernel
theorem d4_20 : decode method_3_code 20 = .ok (.lstore 6, 2) := by decide +kernel
theorem d4_22 : decode method_3_code 22 = .ok (.lload 6, 2) := by decide +kernel
theorem d4_24 : decode method_3_code 24 = .ok (.lload 4, 2) := by decide +kernel
theorem d4_26 : decode method_3_code 26 = .ok (.invokestatic 13, 3) := by decide +kernel
theorem d4_29 : decode method_3_code 29 = .ok (.lmul, 1) := by decide +kernel
theorem d4_30 : decode method_3_code 30 = .ok (.lstore 6, 2) := by decide +kernel
theorem d4_32 : decode method_3_code 32 = .ok (.lload 6, 2) := by decide +kernel
theorem d4_34 : decode method_3_code 34 = .ok (.lload 6, 2) := by decide +kernel
theorem d4_36 : decode method_3_code 36 = .ok (.bipush 27, 2) := by decide +kernel
theorem d4_38 : decode method_3_code 38 = .ok (.lushr, 1) := by decide +kernel
theorem d4_39 : decode method_3_code 39 = .ok (.lxor, 1) := by decide +kernel
theorem d4_40 : decode method_3_code 40 = .ok (.lload 6, 2) := by decide +kernel
theorem d4_42 : decode method_3_code 42 = .ok (.bipush 54, 2) := by decide +kernel
theorem d4_44 : decode method_3_code 44 = .ok (.lushr, 1) := by decide +kernel
theorem d4_45 : decode method_3_code 45 = .ok (.lxor, 1) := by decide +kernel
theorem d4_46 : decode method_3_code 46 = .ok (.lstore 6, 2) := by decide +kernel
theorem d4_48 : decode method_3_code 48 = .ok (.lload 6, 2) := by decide +kernel
theorem d4_50 : decode method_3_code 50 = .ok (.lload_n 2, 1) := by decide +kernel
theorem d4_51 : decode method_3_code 51 = .ok (.invokestatic 13, 3) := by decide +kernel
theorem d4_54 : decode method_3_code 54 = .ok (.lmul, 1) := by decide +kernel
theorem d4_55 : decode method_3_code 55 = .ok (.lstore 6, 2) := by decide +kernel
theorem d4_57 : decode method_3_code 57 = .ok (.lload 6, 2) := by decide +kernel
theorem d4_59 : decode method_3_code 59 = .ok (.lload 6, 2) := by decide +kernel
theorem d4_61 : decode method_3_code 61 = .ok (.bipush 30, 2) := by decide +kernel
theorem d4_63 : decode method_3_code 63 = .ok (.lushr, 1) := by decide +kernel
theorem d4_64 : decode method_3_code 64 = .ok (.lxor, 1) := by decide +kernel
theorem d4_65 : decode method_3_code 65 = .ok (.lload 6, 2) := by decide +kernel
theorem d4_67 : decode method_3_code 67 = .ok (.bipush 60, 2) := by decide +kernel
theorem d4_69 : decode method_3_code 69 = .ok (.lushr, 1) := by decide +kernel
theorem d4_70 : decode method_3_code 70 = .ok (.lxor, 1) := by decide +kernel
theorem d4_71 : decode method_3_code 71 = .ok (.lreturn, 1) := by decide +kernel
theorem pn_4 : plainName "com/example/lockstep/lockstep/generate/SplitMix64NextLongPinLaw" = true := by first | (simp [plainName, overriddenIn]; done) | decide +kernel
theorem ef_4 (m : MethodId) (q0 : Int64) : entryFrame m #[(.long q0)] 8 = mkF m 0 #[.val (.long q0), .second, .unset, .unset, .unset, .unset, .unset, .unset] [] := by first | (simp [entryFrame, mkF, argsToLocals, Value.category]; done) | rfl
def own_rm4_room : Room := { frames := 1, cells := 0, slots := 0, locals := 17 }
def own_f4 (q0 : Int64) : Int64 := let z1 := ((q0 ^^^ (own_lushr q0 (31 : Int32))) ^^^ (own_lushr q0 (62 : Int32))); let z3 := (z1 * (own_f5 (-7723592293110705685 : Int64))); let z4 := ((z3 ^^^ (own_lushr z3 (27 : Int32))) ^^^ (own_lushr z3 (54 : Int32))); let z6 := (z4 * (own_f5 (-4658895280553007687 : Int64))); ((z6 ^^^ (own_lushr z6 (30 : Int32))) ^^^ (own_lushr z6 (60 : Int32)))
set_option maxRecDepth 65536 in
set_option maxHeartbeats 40000000 in
theorem rm4 (l : Launch) (Z : State) (a0 : Array Value) (hw : ∀ d ∈ tables_1, d.before a0 Z = true) (ws : List Jvm.Cond) (q0 : Int64) (h0 : Heap) (n0 : Nat) (Z0 : n0 ≤ h0.size) :
    MetFree l (⟨"com/example/lockstep/lockstep/generate/SplitMix64NextLongPinLaw", "unmix", "(J)J"⟩ : MethodName) (head1 (Jvm.Cond.code (⟨"com/example/lockstep/lockstep/generate/SplitMix64NextLongPinLaw", "unmix", "(J)J"⟩ : MethodName) method_3_code 8 (some .long) :: ws) own_rm4_room) (fun a U => a = #[(.long q0)] ∧ Z.Warmed39 U.vm ∧ U.heap = h0) (fun _ _ _ _ _ => True) (fun _ U o U' => ∃ v L, o = .returned v ∧ own_QP (some (.long (own_f4 q0))) h0 n0 v U'.heap L ∧ FrameEnd U o U' L own_rm4_room.cells own_rm4_room.slots) := by
  refine MetFree.of_bodySF (plainFor_of_name pn_4) hisR ?_
  intro p e s m args below meth c s₁ Bd hml0 hP hK
  obtain ⟨rfl, hZ, hh⟩ := hP
  have hx := Bd.exec
  have hby := Bd.bytes
  have hml : c.maxLocals = 8 := hml0
  have hown : s.vm.findClass "com/example/lockstep/lockstep/generate/SplitMix64NextLongPinLaw" = some m.cls := findClass_of_methodNamed Bd.named
  have hnm := (name_of_methodNamed Bd.named Bd.method).1
  have hlk : meth.locks = false := BodyLoose.notSynchronized Bd
  have X0 : Stand p l e own_rm4_room s m #[(.long q0)] below meth c s₁ [] 0 0 := Stand.of_body Bd
  have e0 : s₁.heap = h0 := by rw [← hh, Bd.state]; rfl
  have N0 := Fr.nil n0
  show own_Fin p.tables e below s (own_QP (some (.long (own_f4 q0))) h0 n0) own_rm4_room.cells own_rm4_room.slots (s₁.setTop (entryFrame m #[(.long q0)] 8))
  rw [ef_4]
  show own_Fin _ _ _ _ _ _ _ (s₁.setTop (mkF m 0 #[.val (.long q0), .second, .unset, .unset, .unset, .unset, .unset, .unset] []))
  refine own_go (fun _ k => X0.ldc2Long hx hown (mvT hZ (hw _ (List.mem_of_getElem? (i := 24) rfl))) (g := (mkF m 0 #[.val (.long q0), .second, .unset, .unset, .unset, .unset, .unset, .unset] [])) rfl (hb hby d4_0) _ k) ?_
  show own_Fin _ _ _ _ _ _ _ (s₁.setTop (mkF m 3 #[.val (.long q0), .second, .unset, .unset, .unset, .unset, .unset, .unset] [(.long (-4658895280553007687 : Int64))]))
  refine own_go (fun _ k => XS.lstoreN X0.here hx rfl (hb hby d4_3) rfl (l' := #[.val (.long q0), .second, .val (.long (-4658895280553007687 : Int64)), .second, .unset, .unset, .unset, .unset]) rfl k) ?_
  show own_Fin _ _ _ _ _ _ _ (s₁.setTop (mkF m 4 #[.val (.long q0), .second, .val (.long (-4658895280553007687 : Int64)), .second, .unset, .unset, .unset, .unset] []))
  refine own_go (fun _ k => X0.ldc2Long hx hown (mvT hZ (hw _ (List.mem_of_getElem? (i := 25) rfl))) (g := (mkF m 4 #[.val (.long q0), .second, .val (.long (-4658895280553007687 : Int64)), .second, .unset, .unset, .unset, .unset] [])) rfl (hb hby d4_4) _ k) ?_
  show own_Fin _ _ _ _ _ _ _ (s₁.setTop (mkF m 7 #[.val (.long q0), .second, .val (.long (-4658895280553007687 : Int64)), .second, .unset, .unset, .unset, .unset] [(.long (-7723592293110705685 : Int64))]))
  refine own_go (fun _ k => XS.lstore X0.here hx rfl (hb hby d4_7) rfl (l' := #[.val (.long q0), .second, .val (.long (-4658895280553007687 : Int64)), .second, .val (.long (-7723592293110705685 : Int64)), .second, .unset, .unset]) rfl k) ?_
  show own_Fin _ _ _ _ _ _ _ (s₁.setTop (mkF m 9 #[.val (.long q0), .second, .val (.long (-4658895280553007687 : Int64)), .second, .val (.long (-7723592293110705685 : Int64)), .second, .unset, .unset] []))
  refine own_go (fun _ k => XS.lloadN X0.here hx rfl (hb hby d4_9) rfl k) ?_
  show own_Fin _ _ _ _ _ _ _ (s₁.setTop (mkF m 10 #[.val (.long q0), .second, .val (.long (-4658895280553007687 : Int64)), .second, .val (.long (-7723592293110705685 : Int64)), .second, .unset, .unset] [(.long q0)]))
  refine own_go (fun _ k => XS.lloadN X0.here hx rfl (hb hby d4_10) rfl k) ?_
  show own_Fin _ _ _ _ _ _ _ (s₁.setTop (mkF m 11 #[.val (.long q0), .second, .val (.long (-4658895280553007687 : Int64)), .second, .val (.long (-7723592293110705685 : Int64)), .second, .unset, .unset] [(.long q0), (.long q0)]))
  refine own_go (fun _ k => XS.bipush X0.here hx rfl (hb hby d4_11) k) ?_
  show own_Fin _ _ _ _ _ _ _ (s₁.setTop (mkF m 13 #[.val (.long q0), .second, .val (.long (-4658895280553007687 : Int64)), .second, .val (.long (-7723592293110705685 : Int64)), .second, .unset, .unset] [(.int (31 : Int32)), (.long q0), (.long q0)]))
  refine own_go (fun _ k => XS.lushr X0.here hx rfl (hb hby d4_13) rfl k) ?_
  show own_Fin _ _ _ _ _ _ _ (s₁.setTop (mkF m 14 #[.val (.long q0), .second, .val (.long (-4658895280553007687 : Int64)), .second, .val (.long (-7723592293110705685 : Int64)), .second, .unset, .unset] [(.long (own_lushr q0 (31 : Int32))), (.long q0)]))
  refine own_go (fun _ k => XS.lxor X0.here hx rfl (hb hby d4_14) rfl k) ?_
  show own_Fin _ _ _ _ _ _ _ (s₁.setTop (mkF m 15 #[.val (.long q0), .second, .val (.long (-4658895280553007687 : Int64)), .second, .val (.long (-7723592293110705685 : Int64)), .second, .unset, .unset] [(.long (q0 ^^^ (own_lushr q0 (31 : Int32))))]))
  refine own_go (fun _ k => XS.lloadN X0.here hx rfl (hb hby d4_15) rfl k) ?_
  show own_Fin _ _ _ _ _ _ _ (s₁.setTop (mkF m 16 #[.val (.long q0), .second, .val (.long (-4658895280553007687 : Int64)), .second, .val (.long (-7723592293110705685 : Int64)), .second, .unset, .unset] [(.long q0), (.long (q0 ^^^ (own_lushr q0 (31 : Int32))))]))
  refine own_go (fun _ k => XS.bipush X0.here hx rfl (hb hby d4_16) k) ?_
  show own_Fin _ _ _ _ _ _ _ (s₁.setTop (mkF m 18 #[.val (.long q0), .second, .val (.long (-4658895280553007687 : Int64)), .second, .val (.long (-7723592293110705685 : Int64)), .second, .unset, .unset] [(.int (62 : Int32)), (.long q0), (.long (q0 ^^^ (own_lushr q0 (31 : Int32))))]))
  refine own_go (fun _ k => XS.lushr X0.here hx rfl (hb hby d4_18) rfl k) ?_
  show own_Fin _ _ _ _ _ _ _ (s₁.setTop (mkF m 19 #[.val (.long q0), .second, .val (.long (-4658895280553007687 : Int64)), .second, .val (.long (-7723592293110705685 : Int64)), .second, .unset, .unset] [(.long (own_lushr q0 (62 : Int32))), (.long (q0 ^^^ (own_lushr q0 (31 : Int32))))]))
  refine own_go (fun _ k => XS.lxor X0.here hx rfl (hb hby d4_19) rfl k) ?_
  show own_Fin _ _ _ _ _ _ _ (s₁.setTop (mkF m 20 #[.val (.long q0), .second, .val (.long (-4658895280553007687 : Int64)), .second, .val (.long (-7723592293110705685 : Int64)), .second, .unset, .unset] [(.long ((q0 ^^^ (own_lushr q0 (31 : Int32))) ^^^ (own_lushr q0 (62 : Int32))))]))
  refine own_go (fun _ k => XS.lstore X0.here hx rfl (hb hby d4_20) rfl (l' := #[.val (.long q0), .second, .val (.long (-4658895280553007687 : Int64)), .second, .val (.long (-7723592293110705685 : Int64)), .second, .val (.long ((q0 ^^^ (own_lushr q0 (31 : Int32))) ^^^ (own_lushr q0 (62 : Int32)))), .second]) rfl k) ?_
  show own_Fin _ _ _ _ _ _ _ (s₁.setTop (mkF m 22 #[.val (.long q0), .second, .val (.long (-4658895280553007687 : Int64)), .second, .val (.long (-7723592293110705685 : Int64)), .second, .val (.long ((q0 ^^^ (own_lushr q0 (31 : Int32))) ^^^ (own_lushr q0 (62 : Int32)))), .second] []))
  generalize hz1 : ((q0 ^^^ (own_lushr q0 (31 : Int32))) ^^^ (own_lushr q0 (62 : Int32))) = z1
  show own_Fin _ _ _ _ _ _ _ (s₁.setTop (mkF m 22 #[.val (.long q0), .second, .val (.long (-4658895280553007687 : Int64)), .second, .val (.long (-7723592293110705685 : Int64)), .second, .val (.long z1), .second] []))
  refine own_go (fun _ k => XS.lload X0.here hx rfl (hb hby d4_22) rfl k) ?_
  show own_Fin _ _ _ _ _ _ _ (s₁.setTop (mkF m 24 #[.val (.long q0), .second, .val (.long (-4658895280553007687 : Int64)), .second, .val (.long (-7723592293110705685 : Int64)), .second, .val (.long z1), .second] [(.long z1)]))
  refine own_go (fun _ k => XS.lload X0.here hx rfl (hb hby d4_24) rfl k) ?_
  show own_Fin _ _ _ _ _ _ _ (s₁.setTop (mkF m 26 #[.val (.long q0), .second, .val (.long (-4658895280553007687 : Int64)), .second, .val (.long (-7723592293110705685 : Int64)), .second, .val (.long z1), .second] [(.long (-7723592293110705685 : Int64)), (.long z1)]))
  obtain ⟨_, _, ⟨T2, L2, k2, n2⟩, -, X2, ⟨Lc2, hQ2, l2, y2, z2⟩, st2⟩ := Jvm.LawKit.callS X0 hx (y := (⟨"com/example/lockstep/lockstep/generate/SplitMix64NextLongPinLaw", "inverse", "(J)J"⟩ : MethodName)) hown (mvT hZ (hw _ (List.mem_of_getElem? (i := 26) rfl))) (mvT hZ (hw _ (List.mem_of_getElem? (i := 27) rfl))) (mvT hZ (hw _ (List.mem_of_getElem? (i := 22) rfl))) (mvT hZ (hw _ (List.mem_of_getElem? (i := 28) rfl))) (by decide) (backOf (W := 2) (rm5 l Z a0 hw [] (-7723592293110705685 : Int64) h0 n0 Z0) hZ (hw _ (List.mem_of_getElem? (i := 28) rfl)) (hw _ (List.mem_of_getElem? (i := 22) rfl)) (by decide) (by decide)) (g := (mkF m 26 #[.val (.long q0), .second, .val (.long (-4658895280553007687 : Int64)), .second, .val (.long (-7723592293110705685 : Int64)), .second, .val (.long z1), .second] [(.long (-7723592293110705685 : Int64)), (.long z1)])) rfl (by rw [hml]; rfl) (argsL := [(.long (-7723592293110705685 : Int64))]) (rest := [(.long z1)]) (lenOf own_pd84 rfl) rfl (by show 2 * 0 + _ ≤ _; exact Nat.le_of_eq rfl) (hb hby d4_26) (fun _ _ => ⟨rfl, e0, (by decide : 0 + 0 ≤ _), (by decide : 0 + 0 ≤ _)⟩)
  dsimp only [Pt.U, Pt.locs, Pt.cells, Pt.slots] at X2 l2 y2 z2 st2 hQ2
  subst l2 y2 z2
  obtain ⟨rfl, N2q, e2⟩ := hQ2
  have N2 := Fr.app N0 N2q
  refine own_go (fun tg k => st2 tg k) ?_
  show own_Fin _ _ _ _ _ _ _ (T2.setTop (mkF m 29 #[.val (.long q0), .second, .val (.long (-4658895280553007687 : Int64)), .second, .val (.long (-7723592293110705685 : Int64)), .second, .val (.long z1), .second] [(.long (own_f5 (-7723592293110705685 : Int64))), (.long z1)]))
  refine own_go (fun _ k => XS.lmul X2.here hx rfl (hb hby d4_29) rfl k) ?_
  show own_Fin _ _ _ _ _ _ _ (T2.setTop (mkF m 30 #[.val (.long q0), .second, .val (.long (-4658895280553007687 : Int64)), .second, .val (.long (-7723592293110705685 : Int64)), .second, .val (.long z1), .second] [(.long (z1 * (own_f5 (-7723592293110705685 : Int64))))]))
  refine own_go (fun _ k => XS.lstore X2.here hx rfl (hb hby d4_30) rfl (l' := #[.val (.long q0), .second, .val (.long (-4658895280553007687 : Int64)), .second, .val (.long (-7723592293110705685 : Int64)), .second, .val (.long (z1 * (own_f5 (-7723592293110705685 : Int64)))), .second]) rfl k) ?_
  show own_Fin _ _ _ _ _ _ _ (T2.setTop (mkF m 32 #[.val (.long q0), .second, .val (.long (-4658895280553007687 : Int64)), .second, .val (.long (-7723592293110705685 : Int64)), .second, .val (.long (z1 * (own_f5 (-7723592293110705685 : Int64)))), .second] []))
  generalize hz3 : (z1 * (own_f5 (-7723592293110705685 : Int64))) = z3
  show own_Fin _ _ _ _ _ _ _ (T2.setTop (mkF m 32 #[.val (.long q0), .second, .val (.long (-4658895280553007687 : Int64)), .second, .val (.long (-7723592293110705685 : Int64)), .second, .val (.long z3), .second] []))
  refine own_go (fun _ k => XS.lload X2.here hx rfl (hb hby d4_32) rfl k) ?_
  show own_Fin _ _ _ _ _ _ _ (T2.setTop (mkF m 34 #[.val (.long q0), .second, .val (.long (-4658895280553007687 : Int64)), .second, .val (.long (-7723592293110705685 : Int64)), .second, .val (.long z3), .second] [(.long z3)]))
  refine own_go (fun _ k => XS.lload X2.here hx rfl (hb hby d4_34) rfl k) ?_
  show own_Fin _ _ _ _ _ _ _ (T2.setTop (mkF m 36 #[.val (.long q0), .second, .val (.long (-4658895280553007687 : Int64)), .second, .val (.long (-7723592293110705685 : Int64)), .second, .val (.long z3), .second] [(.long z3), (.long z3)]))
  refine own_go (fun _ k => XS.bipush X2.here hx rfl (hb hby d4_36) k) ?_
  show own_Fin _ _ _ _ _ _ _ (T2.setTop (mkF m 38 #[.val (.long q0), .second, .val (.long (-4658895280553007687 : Int64)), .second, .val (.long (-7723592293110705685 : Int64)), .second, .val (.long z3), .second] [(.int (27 : Int32)), (.long z3), (.long z3)]))
  refine own_go (fun _ k => XS.lushr X2.here hx rfl (hb hby d4_38) rfl k) ?_
  show own_Fin _ _ _ _ _ _ _ (T2.setTop (mkF m 39 #[.val (.long q0), .second, .val (.long (-4658895280553007687 : Int64)), .second, .val (.long (-7723592293110705685 : Int64)), .second, .val (.long z3), .second] [(.long (own_lushr z3 (27 : Int32))), (.long z3)]))
  refine own_go (fun _ k => XS.lxor X2.here hx rfl (hb hby d4_39) rfl k) ?_
  show own_Fin _ _ _ _ _ _ _ (T2.setTop (mkF m 40 #[.val (.long q0), .second, .val (.long (-4658895280553007687 : Int64)), .second, .val (.long (-7723592293110705685 : Int64)), .second, .val (.long z3), .second] [(.long (z3 ^^^ (own_lushr z3 (27 : Int32))))]))
  refine own_go (fun _ k => XS.lload X2.here hx rfl (hb hby d4_40) rfl k) ?_
  show own_Fin _ _ _ _ _ _ _ (T2.setTop (mkF m 42 #[.val (.long q0), .second, .val (.long (-4658895280553007687 : Int64)), .second, .val (.long (-7723592293110705685 : Int64)), .second, .val (.long z3), .second] [(.long z3), (.long (z3 ^^^ (own_lushr z3 (27 : Int32))))]))
  refine own_go (fun _ k => XS.bipush X2.here hx rfl (hb hby d4_42) k) ?_
  show own_Fin _ _ _ _ _ _ _ (T2.setTop (mkF m 44 #[.val (.long q0), .second, .val (.long (-4658895280553007687 : Int64)), .second, .val (.long (-7723592293110705685 : Int64)), .second, .val (.long z3), .second] [(.int (54 : Int32)), (.long z3), (.long (z3 ^^^ (own_lushr z3 (27 : Int32))))]))
  refine own_go (fun _ k => XS.lushr X2.here hx rfl (hb hby d4_44) rfl k) ?_
  show own_Fin _ _ _ _ _ _ _ (T2.setTop (mkF m 45 #[.val (.long q0), .second, .val (.long (-4658895280553007687 : Int64)), .second, .val (.long (-7723592293110705685 : Int64)), .second, .val (.long z3), .second] [(.long (own_lushr z3 (54 : Int32))), (.long (z3 ^^^ (own_lushr z3 (27 : Int32))))]))
  refine own_go (fun _ k => XS.lxor X2.here hx rfl (hb hby d4_45) rfl k) ?_
  show own_Fin _ _ _ _ _ _ _ (T2.setTop (mkF m 46 #[.val (.long q0), .second, .val (.long (-4658895280553007687 : Int64)), .second, .val (.long (-7723592293110705685 : Int64)), .second, .val (.long z3), .second] [(.long ((z3 ^^^ (own_lushr z3 (27 : Int32))) ^^^ (own_lushr z3 (54 : Int32))))]))
  refine own_go (fun _ k => XS.lstore X2.here hx rfl (hb hby d4_46) rfl (l' := #[.val (.long q0), .second, .val (.long (-4658895280553007687 : Int64)), .second, .val (.long (-7723592293110705685 : Int64)), .second, .val (.long ((z3 ^^^ (own_lushr z3 (27 : Int32))) ^^^ (own_lushr z3 (54 : Int32)))), .second]) rfl k) ?_
  show own_Fin _ _ _ _ _ _ _ (T2.setTop (mkF m 48 #[.val (.long q0), .second, .val (.long (-4658895280553007687 : Int64)), .second, .val (.long (-7723592293110705685 : Int64)), .second, .val (.long ((z3 ^^^ (own_lushr z3 (27 : Int32))) ^^^ (own_lushr z3 (54 : Int32)))), .second] []))
  generalize hz4 : ((z3 ^^^ (own_lushr z3 (27 : Int32))) ^^^ (own_lushr z3 (54 : Int32))) = z4
  show own_Fin _ _ _ _ _ _ _ (T2.setTop (mkF m 48 #[.val (.long q0), .second, .val (.long (-4658895280553007687 : Int64)), .second, .val (.long (-7723592293110705685 : Int64)), .second, .val (.long z4), .second] []))
  refine own_go (fun _ k => XS.lload X2.here hx rfl (hb hby d4_48) rfl k) ?_
  show own_Fin _ _ _ _ _ _ _ (T2.setTop (mkF m 50 #[.val (.long q0), .second, .val (.long (-4658895280553007687 : Int64)), .second, .val (.long (-7723592293110705685 : Int64)), .second, .val (.long z4), .second] [(.long z4)]))
  refine own_go (fun _ k => XS.lloadN X2.here hx rfl (hb hby d4_50) rfl k) ?_
  show own_Fin _ _ _ _ _ _ _ (T2.setTop (mkF m 51 #[.val (.long q0), .second, .val (.long (-4658895280553007687 : Int64)), .second, .val (.long (-7723592293110705685 : Int64)), .second, .val (.long z4), .second] [(.long (-4658895280553007687 : Int64)), (.long z4)]))
  obtain ⟨_, _, ⟨T5, L5, k5, n5⟩, -, X5, ⟨Lc5, hQ5, l5, y5, z5⟩, st5⟩ := Jvm.LawKit.callS X2 hx (y := (⟨"com/example/lockstep/lockstep/generate/SplitMix64NextLongPinLaw", "inverse", "(J)J"⟩ : MethodName)) hown (mvT hZ (hw _ (List.mem_of_getElem? (i := 26) rfl))) (mvT hZ (hw _ (List.mem_of_getElem? (i := 27) rfl))) (mvT hZ (hw _ (List.mem_of_getElem? (i := 22) rfl))) (mvT hZ (hw _ (List.mem_of_getElem? (i := 28) rfl))) (by decide) (backOf (W := 2) (rm5 l Z a0 hw [] (-4658895280553007687 : Int64) h0 n0 Z0) hZ (hw _ (List.mem_of_getElem? (i := 28) rfl)) (hw _ (List.mem_of_getElem? (i := 22) rfl)) (by decide) (by decide)) (g := (mkF m 51 #[.val (.long q0), .second, .val (.long (-4658895280553007687 : Int64)), .second, .val (.long (-7723592293110705685 : Int64)), .second, .val (.long z4), .second] [(.long (-4658895280553007687 : Int64)), (.long z4)])) rfl (by rw [hml]; rfl) (argsL := [(.long (-4658895280553007687 : Int64))]) (rest := [(.long z4)]) (lenOf own_pd84 rfl) rfl (by show 2 * 0 + _ ≤ _; exact Nat.le_of_eq rfl) (hb hby d4_51) (fun _ _ => ⟨rfl, e2, (by decide : 0 + 0 ≤ _), (by decide : 0 + 0 ≤ _)⟩)
  dsimp only [Pt.U, Pt.locs, Pt.cells, Pt.slots] at X5 l5 y5 z5 st5 hQ5
  subst l5 y5 z5
  obtain ⟨rfl, N5q, e5⟩ := hQ5
  have N5 := Fr.app N2 N5q
  refine own_go (fun tg k => st5 tg k) ?_
  show own_Fin _ _ _ _ _ _ _ (T5.setTop (mkF m 54 #[.val (.long q0), .second, .val (.long (-4658895280553007687 : Int64)), .second, .val (.long (-7723592293110705685 : Int64)), .second, .val (.long z4), .second] [(.long (own_f5 (-4658895280553007687 : Int64))), (.long z4)]))
  refine own_go (fun _ k => XS.lmul X5.here hx rfl (hb hby d4_54) rfl k) ?_
  show own_Fin _ _ _ _ _ _ _ (T5.setTop (mkF m 55 #[.val (.long q0), .second, .val (.long (-4658895280553007687 : Int64)), .second, .val (.long (-7723592293110705685 : Int64)), .second, .val (.long z4), .second] [(.long (z4 * (own_f5 (-4658895280553007687 : Int64))))]))
  refine own_go (fun _ k => XS.lstore X5.here hx rfl (hb hby d4_55) rfl (l' := #[.val (.long q0), .second, .val (.long (-4658895280553007687 : Int64)), .second, .val (.long (-7723592293110705685 : Int64)), .second, .val (.long (z4 * (own_f5 (-4658895280553007687 : Int64)))), .second]) rfl k) ?_
  show own_Fin _ _ _ _ _ _ _ (T5.setTop (mkF m 57 #[.val (.long q0), .second, .val (.long (-4658895280553007687 : Int64)), .second, .val (.long (-7723592293110705685 : Int64)), .second, .val (.long (z4 * (own_f5 (-4658895280553007687 : Int64)))), .second] []))
  generalize hz6 : (z4 * (own_f5 (-4658895280553007687 : Int64))) = z6
  show own_Fin _ _ _ _ _ _ _ (T5.setTop (mkF m 57 #[.val (.long q0), .second, .val (.long (-4658895280553007687 : Int64)), .second, .val (.long (-7723592293110705685 : Int64)), .second, .val (.long z6), .second] []))
  refine own_go (fun _ k => XS.lload X5.here hx rfl (hb hby d4_57) rfl k) ?_
  show own_Fin _ _ _ _ _ _ _ (T5.setTop (mkF m 59 #[.val (.long q0), .second, .val (.long (-4658895280553007687 : Int64)), .second, .val (.long (-7723592293110705685 : Int64)), .second, .val (.long z6), .second] [(.long z6)]))
  refine own_go (fun _ k => XS.lload X5.here hx rfl (hb hby d4_59) rfl k) ?_
  show own_Fin _ _ _ _ _ _ _ (T5.setTop (mkF m 61 #[.val (.long q0), .second, .val (.long (-4658895280553007687 : Int64)), .second, .val (.long (-7723592293110705685 : Int64)), .second, .val (.long z6), .second] [(.long z6), (.long z6)]))
  refine own_go (fun _ k => XS.bipush X5.here hx rfl (hb hby d4_61) k) ?_
  show own_Fin _ _ _ _ _ _ _ (T5.setTop (mkF m 63 #[.val (.long q0), .second, .val (.long (-4658895280553007687 : Int64)), .second, .val (.long (-7723592293110705685 : Int64)), .second, .val (.long z6), .second] [(.int (30 : Int32)), (.long z6), (.long z6)]))
  refine own_go (fun _ k => XS.lushr X5.here hx rfl (hb hby d4_63) rfl k) ?_
  show own_Fin _ _ _ _ _ _ _ (T5.setTop (mkF m 64 #[.val (.long q0), .second, .val (.long (-4658895280553007687 : Int64)), .second, .val (.long (-7723592293110705685 : Int64)), .second, .val (.long z6), .second] [(.long (own_lushr z6 (30 : Int32))), (.long z6)]))
  refine own_go (fun _ k => XS.lxor X5.here hx rfl (hb hby d4_64) rfl k) ?_
  show own_Fin _ _ _ _ _ _ _ (T5.setTop (mkF m 65 #[.val (.long q0), .second, .val (.long (-4658895280553007687 : Int64)), .second, .val (.long (-7723592293110705685 : Int64)), .second, .val (.long z6), .second] [(.long (z6 ^^^ (own_lushr z6 (30 : Int32))))]))
  refine own_go (fun _ k => XS.lload X5.here hx rfl (hb hby d4_65) rfl k) ?_
  show own_Fin _ _ _ _ _ _ _ (T5.setTop (mkF m 67 #[.val (.long q0), .second, .val (.long (-4658895280553007687 : Int64)), .second, .val (.long (-7723592293110705685 : Int64)), .second, .val (.long z6), .second] [(.long z6), (.long (z6 ^^^ (own_lushr z6 (30 : Int32))))]))
  refine own_go (fun _ k => XS.bipush X5.here hx rfl (hb hby d4_67) k) ?_
  show own_Fin _ _ _ _ _ _ _ (T5.setTop (mkF m 69 #[.val (.long q0), .second, .val (.long (-4658895280553007687 : Int64)), .second, .val (.long (-7723592293110705685 : Int64)), .second, .val (.long z6), .second] [(.int (60 : Int32)), (.long z6), (.long (z6 ^^^ (own_lushr z6 (30 : Int32))))]))
  refine own_go (fun _ k => XS.lushr X5.here hx rfl (hb hby d4_69) rfl k) ?_
  show own_Fin _ _ _ _ _ _ _ (T5.setTop (mkF m 70 #[.val (.long q0), .second, .val (.long (-4658895280553007687 : Int64)), .second, .val (.long (-7723592293110705685 : Int64)), .second, .val (.long z6), .second] [(.long (own_lushr z6 (60 : Int32))), (.long (z6 ^^^ (own_lushr z6 (30 : Int32))))]))
  refine own_go (fun _ k => XS.lxor X5.here hx rfl (hb hby d4_70) rfl k) ?_
  show own_Fin _ _ _ _ _ _ _ (T5.setTop (mkF m 71 #[.val (.long q0), .second, .val (.long (-4658895280553007687 : Int64)), .second, .val (.long (-7723592293110705685 : Int64)), .second, .val (.long z6), .second] [(.long ((z6 ^^^ (own_lushr z6 (30 : Int32))) ^^^ (own_lushr z6 (60 : Int32))))]))
  refine own_ret X5 hx hlk Bd.returns rfl (Or.inr (Or.inl ⟨rfl, rfl, _, rfl⟩)) (hb hby d4_71) (Nat.le_of_ble_eq_true rfl) (Nat.le_of_ble_eq_true rfl) ?_
  refine ⟨?_, N5, e5⟩
  try subst hz6
  try subst hz4
  try subst hz3
  try subst hz1
  first | rfl | (simp only [own_f4]; done) | (simp only [own_f4]; rfl)
theorem own_pd130 : parseMethodDescriptor "(J)V" = some ⟨[.long], none⟩ := by decide +kernel
theorem own_pd131 : parseMethodDescriptor "()J" = some ⟨[], some .long⟩ := by decide +kernel
theorem pn_0 : plainName "com/example/lockstep/lockstep/generate/SplitMix64NextLongPinLaw" = true := by first | (simp [plainName, overriddenIn]; done) | decide +kernel
theorem ef_0 (m : MethodId) (q0 : Int64) : entryFrame m #[(.long q0)] maxLocals = mkF m 0 #[.val (.long q0), .second, .unset, .unset, .unset, .unset, .unset, .unset, .unset] [] := by first | (simp [entryFrame, mkF, argsToLocals, Value.category, maxLocals]; done) | rfl
def own_f0 (q0 : Int64) : Int32 := let z5 := (own_f3 (q0 + (-7046029254386353131 : Int64))); (if (own_f4 (own_f3 q0)) = (q0 + (-7046029254386353131 : Int64)) then ((if (own_f4 z5) = ((q0 + (-7046029254386353131 : Int64)) + (-7046029254386353131 : Int64)) then ((1 : Int32)) else ((0 : Int32)))) else ((0 : Int32)))
set_option maxRecDepth 65536 in
set_option maxHeartbeats 40000000 in
theorem rm0 (l : Launch) (Z : State) (a0 : Array Value) (hw : ∀ d ∈ tables_1, d.before a0 Z = true) (ws : List Jvm.Cond) (q0 : Int64) (h0 : Heap) (n0 : Nat) (Z0 : n0 ≤ h0.size) :
    MetFree l x (head1 (Jvm.Cond.code x code maxLocals ret :: ws) room_1) (fun a U => a = #[(.long q0)] ∧ Z.Warmed39 U.vm ∧ U.heap = h0) (fun _ _ _ _ _ => True) (fun _ U o U' => ∃ v L, o = .returned v ∧ own_QL (some (.int (own_f0 q0))) n0 v U'.heap L ∧ FrameEnd U o U' L 16 128) := by
  refine MetFree.of_bodySF (plainFor_of_name pn_0) hisR ?_
  intro p e s m args below meth c s₁ Bd hml0 hP hK
  obtain ⟨rfl, hZ, hh⟩ := hP
  have hx := Bd.exec
  have hby := Bd.bytes
  have hml : c.maxLocals = 9 := hml0
  have hown : s.vm.findClass "com/example/lockstep/lockstep/generate/SplitMix64NextLongPinLaw" = some m.cls := findClass_of_methodNamed Bd.named
  have hnm := (name_of_methodNamed Bd.named Bd.method).1
  have hlk : meth.locks = false := BodyLoose.notSynchronized Bd
  have X0 : Stand p l e room_1 s m #[(.long q0)] below meth c s₁ [] 0 0 := Stand.of_body Bd
  have e0 : s₁.heap = h0 := by rw [← hh, Bd.state]; rfl
  have N0 := Fr.nil n0
  show own_Fin p.tables e below s (own_QL (some (.int (own_f0 q0))) n0) 16 128 (s₁.setTop (entryFrame m #[(.long q0)] maxLocals))
  rw [ef_0]
  show own_Fin _ _ _ _ _ _ _ (s₁.setTop (mkF m 0 #[.val (.long q0), .second, .unset, .unset, .unset, .unset, .unset, .unset, .unset] []))
  refine own_go (fun _ k => X0.ldc2Long hx hown (mvT hZ (hw _ (List.mem_of_getElem? (i := 0) rfl))) (g := (mkF m 0 #[.val (.long q0), .second, .unset, .unset, .unset, .unset, .unset, .unset, .unset] [])) rfl (hb hby at_0) _ k) ?_
  show own_Fin _ _ _ _ _ _ _ (s₁.setTop (mkF m 3 #[.val (.long q0), .second, .unset, .unset, .unset, .unset, .unset, .unset, .unset] [(.long (-7046029254386353131 : Int64))]))
  refine own_go (fun _ k => XS.lstoreN X0.here hx rfl (hb hby at_3) rfl (l' := #[.val (.long q0), .second, .val (.long (-7046029254386353131 : Int64)), .second, .unset, .unset, .unset, .unset, .unset]) rfl k) ?_
  show own_Fin _ _ _ _ _ _ _ (s₁.setTop (mkF m 4 #[.val (.long q0), .second, .val (.long (-7046029254386353131 : Int64)), .second, .unset, .unset, .unset, .unset, .unset] []))
  obtain ⟨T1, h1, X1, e1, E1, A1, D1, -, st1⟩ := newO X0 hx hZ hown (hw _ (List.mem_of_getElem? (i := 1) rfl)) (hw _ (List.mem_of_getElem? (i := 2) rfl)) (hw _ (List.mem_of_getElem? (i := 3) rfl)) e0 (g := (mkF m 4 #[.val (.long q0), .second, .val (.long (-7046029254386353131 : Int64)), .second, .unset, .unset, .unset, .unset, .unset] [])) rfl (hb hby at_4) (by decide) (by decide)
  obtain ⟨b1, g1⟩ : ∃ z, z = h0.size := ⟨_, rfl⟩
  rw [← g1] at A1 D1 st1
  have ge_b1 : n0 ≤ b1 := Nat.le_trans Z0 (Nat.le_of_eq g1.symm)
  have Z1 : n0 ≤ h1.size := Nat.le_trans Z0 E1.1
  have E_b1_1 : Exa Z h1 b1 "com/example/lockstep/lockstep/generate/SplitMix64" := A1
  have F_state_b1_1 : Fld Z h1 b1 "com/example/lockstep/lockstep/generate/SplitMix64" "state" "J" (.long (0 : Int64)) := D1 (Or.inl (hw _ (List.mem_of_getElem? (i := 11) rfl))) (ty := .long) (by decide)
  refine own_go (fun tg k => st1 tg k) ?_
  show own_Fin _ _ _ _ _ _ _ (T1.setTop (mkF m 7 #[.val (.long q0), .second, .val (.long (-7046029254386353131 : Int64)), .second, .unset, .unset, .unset, .unset, .unset] [(.ref b1)]))
  refine own_go (fun _ k => XS.dup X1.here hx rfl (hb hby at_7) rfl rfl k) ?_
  show own_Fin _ _ _ _ _ _ _ (T1.setTop (mkF m 8 #[.val (.long q0), .second, .val (.long (-7046029254386353131 : Int64)), .second, .unset, .unset, .unset, .unset, .unset] [(.ref b1), (.ref b1)]))
  refine own_go (fun _ k => XS.lloadN X1.here hx rfl (hb hby at_8) rfl k) ?_
  show own_Fin _ _ _ _ _ _ _ (T1.setTop (mkF m 9 #[.val (.long q0), .second, .val (.long (-7046029254386353131 : Int64)), .second, .unset, .unset, .unset, .unset, .unset] [(.long q0), (.ref b1), (.ref b1)]))
  obtain ⟨_, _, ⟨T2, L2, k2, n2⟩, -, X2, ⟨Lc2, hQ2, l2, y2, z2⟩, st2⟩ := X1.specialBack hx (y := (⟨"com/example/lockstep/lockstep/generate/SplitMix64", "<init>", "(J)V"⟩ : MethodName)) rfl hown (mvT hZ (hw _ (List.mem_of_getElem? (i := 4) rfl))) (mvT hZ (hw _ (List.mem_of_getElem? (i := 5) rfl))) (mvT hZ (hw _ (List.mem_of_getElem? (i := 6) rfl))) (by decide) (backOf (W := 1) (rm1 l Z a0 hw [] b1 q0 (0 : Int64) h1 n0 Z1 E_b1_1 F_state_b1_1 ge_b1) hZ (hw _ (List.mem_of_getElem? (i := 6) rfl)) (hw _ (List.mem_of_getElem? (i := 3) rfl)) (by decide) (by decide)) (g := (mkF m 9 #[.val (.long q0), .second, .val (.long (-7046029254386353131 : Int64)), .second, .unset, .unset, .unset, .unset, .unset] [(.long q0), (.ref b1), (.ref b1)])) rfl (by rw [hml]; rfl) (Steps.refl _) (a := b1) (argsL := [(.long q0)]) (rest := [(.ref b1)]) (lenOf own_pd130 rfl) rfl (by show 2 * 0 + _ ≤ _; exact Nat.le_of_eq rfl) (hb hby at_9) (fun _ _ => ⟨rfl, e1, (by decide : 1 + 0 ≤ _), (by decide : 1 + 0 ≤ _)⟩)
  dsimp only [Pt.U, Pt.locs, Pt.cells, Pt.slots] at X2 l2 y2 z2 st2 hQ2
  subst l2 y2 z2
  obtain ⟨rfl, N2q, Kq2, E_b1_2, F_state_b1_2⟩ := hQ2
  have N2 := Fr.app N0 N2q
  have Z2 : n0 ≤ T2.heap.size := Nat.le_trans Z1 Kq2.1
  refine own_go (fun tg k => st2.trans k) ?_
  show own_Fin _ _ _ _ _ _ _ (T2.setTop (mkF m 12 #[.val (.long q0), .second, .val (.long (-7046029254386353131 : Int64)), .second, .unset, .unset, .unset, .unset, .unset] [(.ref b1)]))
  refine own_go (fun _ k => XS.astore X2.here hx rfl (hb hby at_12) rfl rfl (l' := #[.val (.long q0), .second, .val (.long (-7046029254386353131 : Int64)), .second, .val (.ref b1), .unset, .unset, .unset, .unset]) rfl k) ?_
  show own_Fin _ _ _ _ _ _ _ (T2.setTop (mkF m 14 #[.val (.long q0), .second, .val (.long (-7046029254386353131 : Int64)), .second, .val (.ref b1), .unset, .unset, .unset, .unset] []))
  refine own_go (fun _ k => XS.aload X2.here hx rfl (hb hby at_14) rfl rfl k) ?_
  show own_Fin _ _ _ _ _ _ _ (T2.setTop (mkF m 16 #[.val (.long q0), .second, .val (.long (-7046029254386353131 : Int64)), .second, .val (.ref b1), .unset, .unset, .unset, .unset] [(.ref b1)]))
  obtain ⟨cq3, kq3, q3a, q3b, q3c⟩ := isOf hZ rfl E_b1_2
  obtain ⟨_, _, ⟨T3, L3, k3, n3⟩, -, X3, ⟨Lc3, hQ3, l3, y3, z3⟩, st3⟩ := X2.virtualBack hx (y := (⟨"com/example/lockstep/lockstep/generate/SplitMix64", "nextLong", "()J"⟩ : MethodName)) (z := (⟨"com/example/lockstep/lockstep/generate/SplitMix64", "nextLong", "()J"⟩ : MethodName)) hown (mvT hZ (hw _ (List.mem_of_getElem? (i := 12) rfl))) (mvT hZ (hw _ (List.mem_of_getElem? (i := 13) rfl))) (notFace_of_selects (args := #[]) (mvT hZ (hw _ (List.mem_of_getElem? (i := 15) rfl)))) (mvT hZ (hw _ (List.mem_of_getElem? (i := 15) rfl))) (mvT hZ (hw _ (List.mem_of_getElem? (i := 14) rfl))) (by decide) (backOf (W := 0) (rm3 l Z a0 hw [] b1 q0 T2.heap n0 Z2 E_b1_2 F_state_b1_2 ge_b1) hZ (hw _ (List.mem_of_getElem? (i := 16) rfl)) (hw _ (List.mem_of_getElem? (i := 3) rfl)) (by decide) (by decide)) q3a q3c (g := (mkF m 16 #[.val (.long q0), .second, .val (.long (-7046029254386353131 : Int64)), .second, .val (.ref b1), .unset, .unset, .unset, .unset] [(.ref b1)])) rfl (by rw [hml]; rfl) (Steps.refl _) (argsL := []) (rest := []) (lenOf own_pd131 rfl) rfl (by show 2 * 0 + _ ≤ _; exact Nat.le_of_eq rfl) (hb hby at_16) (fun _ _ => ⟨rfl, rfl, (by decide : 1 + 0 ≤ _), (by decide : 1 + 0 ≤ _)⟩)
  dsimp only [Pt.U, Pt.locs, Pt.cells, Pt.slots] at X3 l3 y3 z3 st3 hQ3
  subst l3 y3 z3
  obtain ⟨rfl, N3q, Kq3, E_b1_3, F_state_b1_3⟩ := hQ3
  have N3 := Fr.app N2 N3q
  have Z3 : n0 ≤ T3.heap.size := Nat.le_trans Z2 Kq3.1
  refine own_go (fun tg k => st3.trans k) ?_
  show own_Fin _ _ _ _ _ _ _ (T3.setTop (mkF m 19 #[.val (.long q0), .second, .val (.long (-7046029254386353131 : Int64)), .second, .val (.ref b1), .unset, .unset, .unset, .unset] [(.long (own_f3 q0))]))
  refine own_go (fun _ k => XS.lstore X3.here hx rfl (hb hby at_19) rfl (l' := #[.val (.long q0), .second, .val (.long (-7046029254386353131 : Int64)), .second, .val (.ref b1), .val (.long (own_f3 q0)), .second, .unset, .unset]) rfl k) ?_
  show own_Fin _ _ _ _ _ _ _ (T3.setTop (mkF m 21 #[.val (.long q0), .second, .val (.long (-7046029254386353131 : Int64)), .second, .val (.ref b1), .val (.long (own_f3 q0)), .second, .unset, .unset] []))
  refine own_go (fun _ k => XS.aload X3.here hx rfl (hb hby at_21) rfl rfl k) ?_
  show own_Fin _ _ _ _ _ _ _ (T3.setTop (mkF m 23 #[.val (.long q0), .second, .val (.long (-7046029254386353131 : Int64)), .second, .val (.ref b1), .val (.long (own_f3 q0)), .second, .unset, .unset] [(.ref b1)]))
  obtain ⟨cq4, kq4, q4a, q4b, q4c⟩ := isOf hZ rfl E_b1_3
  obtain ⟨_, _, ⟨T4, L4, k4, n4⟩, -, X4, ⟨Lc4, hQ4, l4, y4, z4⟩, st4⟩ := X3.virtualBack hx (y := (⟨"com/example/lockstep/lockstep/generate/SplitMix64", "nextLong", "()J"⟩ : MethodName)) (z := (⟨"com/example/lockstep/lockstep/generate/SplitMix64", "nextLong", "()J"⟩ : MethodName)) hown (mvT hZ (hw _ (List.mem_of_getElem? (i := 12) rfl))) (mvT hZ (hw _ (List.mem_of_getElem? (i := 13) rfl))) (notFace_of_selects (args := #[]) (mvT hZ (hw _ (List.mem_of_getElem? (i := 15) rfl)))) (mvT hZ (hw _ (List.mem_of_getElem? (i := 15) rfl))) (mvT hZ (hw _ (List.mem_of_getElem? (i := 14) rfl))) (by decide) (backOf (W := 0) (rm3 l Z a0 hw [] b1 (q0 + (-7046029254386353131 : Int64)) T3.heap n0 Z3 E_b1_3 F_state_b1_3 ge_b1) hZ (hw _ (List.mem_of_getElem? (i := 16) rfl)) (hw _ (List.mem_of_getElem? (i := 3) rfl)) (by decide) (by decide)) q4a q4c (g := (mkF m 23 #[.val (.long q0), .second, .val (.long (-7046029254386353131 : Int64)), .second, .val (.ref b1), .val (.long (own_f3 q0)), .second, .unset, .unset] [(.ref b1)])) rfl (by rw [hml]; rfl) (Steps.refl _) (argsL := []) (rest := []) (lenOf own_pd131 rfl) rfl (by show 2 * 0 + _ ≤ _; exact Nat.le_of_eq rfl) (hb hby at_23) (fun _ _ => ⟨rfl, rfl, (by decide : 1 + 0 ≤ _), (by decide : 1 + 0 ≤ _)⟩)
  dsimp only [Pt.U, Pt.locs, Pt.cells, Pt.slots] at X4 l4 y4 z4 st4 hQ4
  subst l4 y4 z4
  obtain ⟨rfl, N4q, Kq4, E_b1_4, F_state_b1_4⟩ := hQ4
  have N4 := Fr.app N3 N4q
  have Z4 : n0 ≤ T4.heap.size := Nat.le_trans Z3 Kq4.1
  refine own_go (fun tg k => st4.trans k) ?_
  show own_Fin _ _ _ _ _ _ _ (T4.setTop (mkF m 26 #[.val (.long q0), .second, .val (.long (-7046029254386353131 : Int64)), .second, .val (.ref b1), .val (.long (own_f3 q0)), .second, .unset, .unset] [(.long (own_f3 (q0 + (-7046029254386353131 : Int64))))]))
  refine own_go (fun _ k => XS.lstore X4.here hx rfl (hb hby at_26) rfl (l' := #[.val (.long q0), .second, .val (.long (-7046029254386353131 : Int64)), .second, .val (.ref b1), .val (.long (own_f3 q0)), .second, .val (.long (own_f3 (q0 + (-7046029254386353131 : Int64)))), .second]) rfl k) ?_
  show own_Fin _ _ _ _ _ _ _ (T4.setTop (mkF m 28 #[.val (.long q0), .second, .val (.long (-7046029254386353131 : Int64)), .second, .val (.ref b1), .val (.long (own_f3 q0)), .second, .val (.long (own_f3 (q0 + (-7046029254386353131 : Int64)))), .second] []))
  generalize hz5 : (own_f3 (q0 + (-7046029254386353131 : Int64))) = z5
  show own_Fin _ _ _ _ _ _ _ (T4.setTop (mkF m 28 #[.val (.long q0), .second, .val (.long (-7046029254386353131 : Int64)), .second, .val (.ref b1), .val (.long (own_f3 q0)), .second, .val (.long z5), .second] []))
  refine own_go (fun _ k => XS.lload X4.here hx rfl (hb hby at_28) rfl k) ?_
  show own_Fin _ _ _ _ _ _ _ (T4.setTop (mkF m 30 #[.val (.long q0), .second, .val (.long (-7046029254386353131 : Int64)), .second, .val (.ref b1), .val (.long (own_f3 q0)), .second, .val (.long z5), .second] [(.long (own_f3 q0))]))
  obtain ⟨_, _, ⟨T6, L6, k6, n6⟩, -, X6, ⟨Lc6, hQ6, l6, y6, z6⟩, st6⟩ := Jvm.LawKit.callS X4 hx (y := (⟨"com/example/lockstep/lockstep/generate/SplitMix64NextLongPinLaw", "unmix", "(J)J"⟩ : MethodName)) hown (mvT hZ (hw _ (List.mem_of_getElem? (i := 20) rfl))) (mvT hZ (hw _ (List.mem_of_getElem? (i := 21) rfl))) (mvT hZ (hw _ (List.mem_of_getElem? (i := 22) rfl))) (mvT hZ (hw _ (List.mem_of_getElem? (i := 23) rfl))) (by decide) (backOf (W := 0) (rm4 l Z a0 hw [] (own_f3 q0) T4.heap n0 Z4) hZ (hw _ (List.mem_of_getElem? (i := 23) rfl)) (hw _ (List.mem_of_getElem? (i := 22) rfl)) (by decide) (by decide)) (g := (mkF m 30 #[.val (.long q0), .second, .val (.long (-7046029254386353131 : Int64)), .second, .val (.ref b1), .val (.long (own_f3 q0)), .second, .val (.long z5), .second] [(.long (own_f3 q0))])) rfl (by rw [hml]; rfl) (argsL := [(.long (own_f3 q0))]) (rest := []) (lenOf own_pd84 rfl) rfl (by show 2 * 0 + _ ≤ _; exact Nat.le_of_eq rfl) (hb hby at_30) (fun _ _ => ⟨rfl, rfl, (by decide : 1 + 0 ≤ _), (by decide : 1 + 0 ≤ _)⟩)
  dsimp only [Pt.U, Pt.locs, Pt.cells, Pt.slots] at X6 l6 y6 z6 st6 hQ6
  subst l6 y6 z6
  obtain ⟨rfl, N6q, e6⟩ := hQ6
  have N6 := Fr.app N4 N6q
  refine own_go (fun tg k => st6 tg k) ?_
  show own_Fin _ _ _ _ _ _ _ (T6.setTop (mkF m 33 #[.val (.long q0), .second, .val (.long (-7046029254386353131 : Int64)), .second, .val (.ref b1), .val (.long (own_f3 q0)), .second, .val (.long z5), .second] [(.long (own_f4 (own_f3 q0)))]))
  refine own_go (fun _ k => XS.lloadN X6.here hx rfl (hb hby at_33) rfl k) ?_
  show own_Fin _ _ _ _ _ _ _ (T6.setTop (mkF m 34 #[.val (.long q0), .second, .val (.long (-7046029254386353131 : Int64)), .second, .val (.ref b1), .val (.long (own_f3 q0)), .second, .val (.long z5), .second] [(.long q0), (.long (own_f4 (own_f3 q0)))]))
  refine own_go (fun _ k => XS.lloadN X6.here hx rfl (hb hby at_34) rfl k) ?_
  show own_Fin _ _ _ _ _ _ _ (T6.setTop (mkF m 35 #[.val (.long q0), .second, .val (.long (-7046029254386353131 : Int64)), .second, .val (.ref b1), .val (.long (own_f3 q0)), .second, .val (.long z5), .second] [(.long (-7046029254386353131 : Int64)), (.long q0), (.long (own_f4 (own_f3 q0)))]))
  refine own_go (fun _ k => XS.ladd X6.here hx rfl (hb hby at_35) rfl k) ?_
  show own_Fin _ _ _ _ _ _ _ (T6.setTop (mkF m 36 #[.val (.long q0), .second, .val (.long (-7046029254386353131 : Int64)), .second, .val (.ref b1), .val (.long (own_f3 q0)), .second, .val (.long z5), .second] [(.long (q0 + (-7046029254386353131 : Int64))), (.long (own_f4 (own_f3 q0)))]))
  refine own_go (fun _ k => XS.lcmp X6.here hx rfl (hb hby at_36) rfl k) ?_
  show own_Fin _ _ _ _ _ _ _ (T6.setTop (mkF m 37 #[.val (.long q0), .second, .val (.long (-7046029254386353131 : Int64)), .second, .val (.ref b1), .val (.long (own_f3 q0)), .second, .val (.long z5), .second] [(.int (lcmpW (own_f4 (own_f3 q0)) (q0 + (-7046029254386353131 : Int64))))]))
  by_cases hc7 : (own_f4 (own_f3 q0)) = (q0 + (-7046029254386353131 : Int64))
  · refine own_go (fun _ k => XS.ifNo X6.here hx rfl (hb hby at_37) rfl ((if0 _ _).trans (teq ((lw_eq _ _).mpr hc7)).2) k) ?_
    show own_Fin _ _ _ _ _ _ _ (T6.setTop (mkF m 40 #[.val (.long q0), .second, .val (.long (-7046029254386353131 : Int64)), .second, .val (.ref b1), .val (.long (own_f3 q0)), .second, .val (.long z5), .second] []))
    refine own_go (fun _ k => XS.lload X6.here hx rfl (hb hby at_40) rfl k) ?_
    show own_Fin _ _ _ _ _ _ _ (T6.setTop (mkF m 42 #[.val (.long q0), .second, .val (.long (-7046029254386353131 : Int64)), .second, .val (.ref b1), .val (.long (own_f3 q0)), .second, .val (.long z5), .second] [(.long z5)]))
    obtain ⟨_, _, ⟨T8, L8, k8, n8⟩, -, X8, ⟨Lc8, hQ8, l8, y8, z8⟩, st8⟩ := Jvm.LawKit.callS X6 hx (y := (⟨"com/example/lockstep/lockstep/generate/SplitMix64NextLongPinLaw", "unmix", "(J)J"⟩ : MethodName)) hown (mvT hZ (hw _ (List.mem_of_getElem? (i := 20) rfl))) (mvT hZ (hw _ (List.mem_of_getElem? (i := 21) rfl))) (mvT hZ (hw _ (List.mem_of_getElem? (i := 22) rfl))) (mvT hZ (hw _ (List.mem_of_getElem? (i := 23) rfl))) (by decide) (backOf (W := 0) (rm4 l Z a0 hw [] z5 T4.heap n0 Z4) hZ (hw _ (List.mem_of_getElem? (i := 23) rfl)) (hw _ (List.mem_of_getElem? (i := 22) rfl)) (by decide) (by decide)) (g := (mkF m 42 #[.val (.long q0), .second, .val (.long (-7046029254386353131 : Int64)), .second, .val (.ref b1), .val (.long (own_f3 q0)), .second, .val (.long z5), .second] [(.long z5)])) rfl (by rw [hml]; rfl) (argsL := [(.long z5)]) (rest := []) (lenOf own_pd84 rfl) rfl (by show 2 * 0 + _ ≤ _; exact Nat.le_of_eq rfl) (hb hby at_42) (fun _ _ => ⟨rfl, e6, (by decide : 1 + 0 ≤ _), (by decide : 1 + 0 ≤ _)⟩)
    dsimp only [Pt.U, Pt.locs, Pt.cells, Pt.slots] at X8 l8 y8 z8 st8 hQ8
    subst l8 y8 z8
    obtain ⟨rfl, N8q, e8⟩ := hQ8
    have N8 := Fr.app N6 N8q
    refine own_go (fun tg k => st8 tg k) ?_
    show own_Fin _ _ _ _ _ _ _ (T8.setTop (mkF m 45 #[.val (.long q0), .second, .val (.long (-7046029254386353131 : Int64)), .second, .val (.ref b1), .val (.long (own_f3 q0)), .second, .val (.long z5), .second] [(.long (own_f4 z5))]))
    refine own_go (fun _ k => XS.lloadN X8.here hx rfl (hb hby at_45) rfl k) ?_
    show own_Fin _ _ _ _ _ _ _ (T8.setTop (mkF m 46 #[.val (.long q0), .second, .val (.long (-7046029254386353131 : Int64)), .second, .val (.ref b1), .val (.long (own_f3 q0)), .second, .val (.long z5), .second] [(.long q0), (.long (own_f4 z5))]))
    refine own_go (fun _ k => XS.lloadN X8.here hx rfl (hb hby at_46) rfl k) ?_
    show own_Fin _ _ _ _ _ _ _ (T8.setTop (mkF m 47 #[.val (.long q0), .second, .val (.long (-7046029254386353131 : Int64)), .second, .val (.ref b1), .val (.long (own_f3 q0)), .second, .val (.long z5), .second] [(.long (-7046029254386353131 : Int64)), (.long q0), (.long (own_f4 z5))]))
    refine own_go (fun _ k => XS.ladd X8.here hx rfl (hb hby at_47) rfl k) ?_
    show own_Fin _ _ _ _ _ _ _ (T8.setTop (mkF m 48 #[.val (.long q0), .second, .val (.long (-7046029254386353131 : Int64)), .second, .val (.ref b1), .val (.long (own_f3 q0)), .second, .val (.long z5), .second] [(.long (q0 + (-7046029254386353131 : Int64))), (.long (own_f4 z5))]))
    refine own_go (fun _ k => XS.lloadN X8.here hx rfl (hb hby at_48) rfl k) ?_
    show own_Fin _ _ _ _ _ _ _ (T8.setTop (mkF m 49 #[.val (.long q0), .second, .val (.long (-7046029254386353131 : Int64)), .second, .val (.ref b1), .val (.long (own_f3 q0)), .second, .val (.long z5), .second] [(.long (-7046029254386353131 : Int64)), (.long (q0 + (-7046029254386353131 : Int64))), (.long (own_f4 z5))]))
    refine own_go (fun _ k => XS.ladd X8.here hx rfl (hb hby at_49) rfl k) ?_
    show own_Fin _ _ _ _ _ _ _ (T8.setTop (mkF m 50 #[.val (.long q0), .second, .val (.long (-7046029254386353131 : Int64)), .second, .val (.ref b1), .val (.long (own_f3 q0)), .second, .val (.long z5), .second] [(.long ((q0 + (-7046029254386353131 : Int64)) + (-7046029254386353131 : Int64))), (.long (own_f4 z5))]))
    refine own_go (fun _ k => XS.lcmp X8.here hx rfl (hb hby at_50) rfl k) ?_
    show own_Fin _ _ _ _ _ _ _ (T8.setTop (mkF m 51 #[.val (.long q0), .second, .val (.long (-7046029254386353131 : Int64)), .second, .val (.ref b1), .val (.long (own_f3 q0)), .second, .val (.long z5), .second] [(.int (lcmpW (own_f4 z5) ((q0 + (-7046029254386353131 : Int64)) + (-7046029254386353131 : Int64))))]))
    by_cases hc9 : (own_f4 z5) = ((q0 + (-7046029254386353131 : Int64)) + (-7046029254386353131 : Int64))
    · refine own_go (fun _ k => XS.ifNo X8.here hx rfl (hb hby at_51) rfl ((if0 _ _).trans (teq ((lw_eq _ _).mpr hc9)).2) k) ?_
      show own_Fin _ _ _ _ _ _ _ (T8.setTop (mkF m 54 #[.val (.long q0), .second, .val (.long (-7046029254386353131 : Int64)), .second, .val (.ref b1), .val (.long (own_f3 q0)), .second, .val (.long z5), .second] []))
      refine own_go (fun _ k => XS.iconst X8.here hx rfl (hb hby at_54) k) ?_
      show own_Fin _ _ _ _ _ _ _ (T8.setTop (mkF m 55 #[.val (.long q0), .second, .val (.long (-7046029254386353131 : Int64)), .second, .val (.ref b1), .val (.long (own_f3 q0)), .second, .val (.long z5), .second] [(.int (1 : Int32))]))
      refine own_go (fun _ k => XS.goto X8.here hx rfl (pc0 := 55) (pc' := 59) rfl (hb hby at_55) (by decide) (by decide) k) ?_
      show own_Fin _ _ _ _ _ _ _ (T8.setTop (mkF m 59 #[.val (.long q0), .second, .val (.long (-7046029254386353131 : Int64)), .second, .val (.ref b1), .val (.long (own_f3 q0)), .second, .val (.long z5), .second] [(.int (1 : Int32))]))
      refine own_ret X8 hx hlk Bd.returns rfl (Or.inl ⟨rfl, by simp, _, rfl⟩) (hb hby at_59) (Nat.le_of_ble_eq_true rfl) (Nat.le_of_ble_eq_true rfl) ?_
      try subst hz5
      refine ⟨?_, N8, trivial⟩
      first | rfl | (simp only [own_f0, if_pos hc7, if_pos hc9]; done) | (simp only [own_f0, if_pos hc7, if_pos hc9]; rfl)
    · refine own_go (fun _ k => XS.ifYes X8.here hx rfl (pc0 := 51) (pc' := 58) rfl (hb hby at_51) rfl ((if0 _ _).trans (feq (mt (lw_eq _ _).mp hc9)).2) (by decide) (by decide) k) ?_
      show own_Fin _ _ _ _ _ _ _ (T8.setTop (mkF m 58 #[.val (.long q0), .second, .val (.long (-7046029254386353131 : Int64)), .second, .val (.ref b1), .val (.long (own_f3 q0)), .second, .val (.long z5), .second] []))
      refine own_go (fun _ k => XS.iconst X8.here hx rfl (hb hby at_58) k) ?_
      show own_Fin _ _ _ _ _ _ _ (T8.setTop (mkF m 59 #[.val (.long q0), .second, .val (.long (-7046029254386353131 : Int64)), .second, .val (.ref b1), .val (.long (own_f3 q0)), .second, .val (.long z5), .second] [(.int (0 : Int32))]))
      refine own_ret X8 hx hlk Bd.returns rfl (Or.inl ⟨rfl, by simp, _, rfl⟩) (hb hby at_59) (Nat.le_of_ble_eq_true rfl) (Nat.le_of_ble_eq_true rfl) ?_
      try subst hz5
      refine ⟨?_, N8, trivial⟩
      first | rfl | (simp only [own_f0, if_pos hc7, if_neg hc9]; done) | (simp only [own_f0, if_pos hc7, if_neg hc9]; rfl)
  · refine own_go (fun _ k => XS.ifYes X6.here hx rfl (pc0 := 37) (pc' := 58) rfl (hb hby at_37) rfl ((if0 _ _).trans (feq (mt (lw_eq _ _).mp hc7)).2) (by decide) (by decide) k) ?_
    show own_Fin _ _ _ _ _ _ _ (T6.setTop (mkF m 58 #[.val (.long q0), .second, .val (.long (-7046029254386353131 : Int64)), .second, .val (.ref b1), .val (.long (own_f3 q0)), .second, .val (.long z5), .second] []))
    refine own_go (fun _ k => XS.iconst X6.here hx rfl (hb hby at_58) k) ?_
    show own_Fin _ _ _ _ _ _ _ (T6.setTop (mkF m 59 #[.val (.long q0), .second, .val (.long (-7046029254386353131 : Int64)), .second, .val (.ref b1), .val (.long (own_f3 q0)), .second, .val (.long z5), .second] [(.int (0 : Int32))]))
    refine own_ret X6 hx hlk Bd.returns rfl (Or.inl ⟨rfl, by simp, _, rfl⟩) (hb hby at_59) (Nat.le_of_ble_eq_true rfl) (Nat.le_of_ble_eq_true rfl) ?_
    try subst hz5
    refine ⟨?_, N6, trivial⟩
    first | rfl | (simp only [own_f0, if_neg hc7]; done) | (simp only [own_f0, if_neg hc7]; rfl)
theorem own_lushr_bv (x : Int64) (y : Int32) (k : Nat) (hk : y.toBitVec.toNat % 64 = k) : (own_lushr x y).toBitVec = x.toBitVec >>> k := by
  show x.toBitVec >>> ((y &&& 0x3f).toInt64.toBitVec % 64) = _
  have h5 := (sm64 y k hk).2
  rw [BitVec.ushiftRight_eq', BitVec.toNat_umod, (sm64 y k hk).1, BitVec.toNat_ofNat]
  congr 1; show k % 2 ^ 64 % 64 = k; omega
theorem own_lshl_bv (x : Int64) (y : Int32) (k : Nat) (hk : y.toBitVec.toNat % 64 = k) : (own_lshl x y).toBitVec = x.toBitVec <<< k := by
  show x.toBitVec <<< ((y &&& 0x3f).toInt64.toBitVec.smod 64) = _
  rw [BitVec.shiftLeft_eq', (sm64 y k hk).1, smod64 k (sm64 y k hk).2]
theorem own_sh {y : Int32} {k : Nat} (h : y.toInt = k) (hk : k < 64) : y.toBitVec.toNat % 64 = k := by
  have e : y.toBitVec.toInt = k := h
  have := y.toBitVec.isLt
  rw [BitVec.toInt_eq_toNat_cond] at e
  split at e <;> omega
def own_bit (x : Int64) (k : Nat) : Bool := x.toBitVec.getLsbD k
theorem own_bit_and (x y : Int64) (k : Nat) : own_bit (x &&& y) k = (own_bit x k && own_bit y k) := BitVec.getLsbD_and ..
theorem own_bit_or (x y : Int64) (k : Nat) : own_bit (x ||| y) k = (own_bit x k || own_bit y k) := BitVec.getLsbD_or ..
theorem own_bit_xor (x y : Int64) (k : Nat) : own_bit (x ^^^ y) k = (own_bit x k ^^ own_bit y k) := BitVec.getLsbD_xor ..
theorem own_bit_shr (x : Int64) {y : Int32} {k : Nat} (h : y.toInt = k) (hk : k < 64) (i : Nat) : own_bit (own_lushr x y) i = own_bit x (k + i) := by
  simp only [own_bit, own_lushr_bv x y k (own_sh h hk), BitVec.getLsbD_ushiftRight]
theorem own_bit_shl (x : Int64) {y : Int32} {k : Nat} (h : y.toInt = k) (hk : k < 64) (i : Nat) : own_bit (own_lshl x y) i = (decide (i < 64) && !decide (i < k) && own_bit x (i - k)) := by
  simp only [own_bit, own_lshl_bv x y k (own_sh h hk), BitVec.getLsbD_shiftLeft]
theorem own_bit_hi (x : Int64) {k : Nat} (h : 64 ≤ k) : own_bit x k = false := BitVec.getLsbD_of_ge _ _ h
theorem own_bit_one (i : Nat) : own_bit 1 i = decide (i = 0) := by
  show (1#64).getLsbD i = _
  rw [BitVec.getLsbD_one]; cases i <;> rfl
theorem own_bit_m1 (i : Nat) : own_bit (-1) i = decide (i < 64) := by
  show (BitVec.allOnes 64).getLsbD i = _
  rw [BitVec.getLsbD_allOnes]
theorem own_and1 (x : Int64) : x &&& (1 : Int64) = if own_bit x 0 then (1 : Int64) else (0 : Int64) := by
  have h : (x &&& 1).toBitVec = x.toBitVec &&& 1#64 := rfl
  cases hb : own_bit x 0
  · rw [if_neg (by simp)]
    apply Int64.toBitVec_inj.mp; rw [h]
    apply BitVec.eq_of_getLsbD_eq; intro i hi
    rw [BitVec.getLsbD_and, BitVec.getLsbD_one]
    show _ = (0#64).getLsbD i
    cases i with
    | zero => simp only [own_bit] at hb; rw [hb]; rfl
    | succ n => simp
  · rw [if_pos rfl]
    apply Int64.toBitVec_inj.mp; rw [h]
    apply BitVec.eq_of_getLsbD_eq; intro i hi
    rw [BitVec.getLsbD_and, BitVec.getLsbD_one]
    show _ = (1#64).getLsbD i
    rw [BitVec.getLsbD_one]
    cases i with
    | zero => simp only [own_bit] at hb; rw [hb]; rfl
    | succ n => simp
theorem own_pick (x : Int64) {y : Int32} {k : Nat} (h : y.toInt = k) (hk : k < 64) : (own_lushr x y) &&& (1 : Int64) = if own_bit x k then (1 : Int64) else (0 : Int64) := by
  rw [own_and1, own_bit_shr x h hk]; rfl
theorem own_maskall : ∀ w i : Fin 64, own_bit ((own_lshl (1 : Int64) (Int32.ofNat w.1)) - (1 : Int64)) i.1 = decide (i.1 < w.1) := by decide +kernel
theorem own_i32n {y : Int32} {k : Nat} (h : y.toInt = k) : y = Int32.ofNat k := by
  have r := rng32 y
  apply Int32.toInt_inj.mp
  rw [Int32.toInt_ofNat_small (by omega), h]
theorem own_mask {w : Int32} {k : Nat} (h : w.toInt = k) (hk : k < 64) (i : Nat) : own_bit ((own_lshl (1 : Int64) w) - (1 : Int64)) i = decide (i < k) := by
  by_cases hi : i < 64
  · rw [own_i32n h]; exact own_maskall ⟨k, hk⟩ ⟨i, hi⟩
  · rw [own_bit_hi _ (by omega)]; symm; simp; omega
theorem own_word (q : Int64) (h0 : ¬ q < (0 : Int64)) (h1 : q < (4096 : Int64)) : ((own_lushr q (6 : Int32)).toInt32).toInt = q.toInt / 64 := by
  rw [Int64.lt_iff_toInt_lt, show (0 : Int64).toInt = 0 from by decide] at h0
  rw [Int64.lt_iff_toInt_lt, show (4096 : Int64).toInt = 4096 from by decide] at h1
  have h := c_lushr q 6 6 (by decide) (by decide)
  have h' : (own_lushr q 6).toInt = (q.toInt % 18446744073709551616) / (2 ^ 6 : Nat) := h
  have g := c_l2i (own_lushr q 6)
  have r := rng32 (own_lushr q 6).toInt32
  have e : ((2 ^ 6 : Nat) : Int) = 64 := by decide
  rw [e] at h'
  omega
theorem own_low6 (q : Int64) (h0 : ¬ q < (0 : Int64)) (h1 : q < (4096 : Int64)) : ((q &&& (63 : Int64)).toInt32).toInt = q.toInt % 64 := by
  rw [Int64.lt_iff_toInt_lt, show (0 : Int64).toInt = 0 from by decide] at h0
  have h := c_maskL q 63 6 (by decide) (by decide)
  rw [show ((2 ^ 6 : Nat) : Int) = 64 from by decide] at h
  have g := c_l2i (q &&& 63)
  have r := rng32 (q &&& 63).toInt32
  omega
theorem own_un (x : Int64) (a b : Int32) (i j : Nat) (ha : a.toBitVec.toNat % 64 = i) (hb : b.toBitVec.toNat % 64 = j) (h2 : j = i + i) (h3 : 64 ≤ i + j) :
    ((x ^^^ own_lushr x a) ^^^ own_lushr (x ^^^ own_lushr x a) a) ^^^ own_lushr (x ^^^ own_lushr x a) b = x := by
  apply Int64.toBitVec_inj.mp
  simp only [Int64.toBitVec_xor, own_lushr_bv _ a i ha, own_lushr_bv _ b j hb]
  generalize x.toBitVec = v
  subst h2
  ext k hk
  simp only [BitVec.getElem_xor, BitVec.getElem_ushiftRight, BitVec.getLsbD_xor, BitVec.getLsbD_ushiftRight]
  rw [show i + (i + k) = i + i + k from by omega, BitVec.getLsbD_of_ge v (i + (i + i + k)) (by omega)]
  cases v[k] <;> cases v.getLsbD (i + k) <;> cases v.getLsbD (i + i + k) <;> rfl

theorem own_i1 : own_f5 (-7723592293110705685 : Int64) = 3573116690164977347 := by decide +kernel
theorem own_i2 : own_f5 (-4658895280553007687 : Int64) = -7575587736534282103 := by decide +kernel
theorem own_mul (z m n : Int64) (h : m * n = 1) : z * m * n = z := by rw [Int64.mul_assoc, h, Int64.mul_one]
theorem own_back (x : Int64) : own_f4 (own_f3 x) = x + (-7046029254386353131 : Int64) := by
  simp only [own_f4, own_f3, own_i1, own_i2]
  generalize x + (-7046029254386353131 : Int64) = z
  rw [own_un _ 31 62 31 62 (by decide) (by decide) (by decide) (by decide), own_mul _ _ _ (by decide +kernel), own_un _ 27 54 27 54 (by decide) (by decide) (by decide) (by decide), own_mul _ _ _ (by decide +kernel), own_un _ 30 60 30 60 (by decide) (by decide) (by decide) (by decide)]
theorem own_plain (q0 : Int64) : own_f0 q0 = 1 := by
  simp only [own_f0, own_back, if_true]
set_option maxRecDepth 65536 in
set_option maxHeartbeats 40000000 in
theorem comes_1 {Post : Tables → Env → Array Value → State → Outcome → State → Prop} (hpost : ∀ tb e args s v u, (limb_1_1.after args s (.returned v) u = true ∧ limb_1_2.after args s (.returned v) u = true ∧ True) → FrameEnd s (.returned v) u (Jvm.fieldLocs frame_1_writes args s ++ Jvm.arrayLocs frame_1_arrays args s ++ Jvm.staticLocs frame_1_statics s) 16 128 → Post tb e args s (.returned v) u) :
    ArmFor flags0 classFile x code maxLocals ret World_1 tables_1 room_1 Calls_1 rest_1 Pre_1 Post := by
  intro l hfl _ _ p e ha hc hk s m args below hf hA hF happ hP
  obtain ⟨hcalls, hrest, hpre⟩ := hP
  obtain ⟨-, -, -, hnamed, -, -, -, hat⟩ := (Spec.applies_iff hf).mp happ
  obtain ⟨hg, hn⟩ := and_e (Cond.before_iff.mp (show (Jvm.Cond.and given_1 narrow_1).before args s = true from hpre))
  obtain ⟨g1, g2⟩ := and_e hg
  obtain ⟨w0, rfl⟩ : ∃ w0 : Value, args = #[w0] := by
    have hs : args.size = 1 := by simpa [Cond.value, given_1] using g1
    obtain ⟨L⟩ := args
    match L, hs with
    | [w0], _ => exact ⟨w0, rfl⟩
  have hw := fun d (hd : d ∈ tables_1) => atoms_spec (ws := Jvm.Cond.code x code maxLocals ret :: tables_1) hat d (List.mem_cons_of_mem _ hd)
  have hfit : Fit s := fun {y c} hc i hi => by
    obtain ⟨ha, rfl⟩ := Array.getElem?_eq_some_iff.mp hc
    have q := List.all_eq_true.mp ((Array.all_eq_true_iff_forall_mem.mp hF) _ (Array.getElem_mem ha)) i (List.mem_range.mpr hi)
    simpa [Array.getElem?_eq_getElem hi] using q
  obtain ⟨i0, ei0⟩ := isL_v g2
  obtain rfl : w0 = (.long i0) := Option.some.inj ei0
  obtain ⟨n, o, h1, h2, h3, _, L, rfl, ⟨rfl, N, hrest'⟩, hq⟩ := rm0 l s _ hw tables_1 i0 s.heap s.heap.size (Nat.le_refl _) p e ha hc hk s m _ below hf ((Spec.applies_iff_loose hf).mp happ).1 ⟨rfl, State.Warmed39.refl s, rfl⟩ trivial
  refine ⟨n, _, h1, h2, h3, hpost _ _ _ _ _ _ ⟨Cond.after_iff.mpr rfl, Cond.after_iff.mpr (eq_i res_at (Term.int_eval (1)) (congrArg Value.int (own_plain i0))), trivial⟩ ⟨hq.1, hq.2.1, (hq.2.2.sift fun y hy => Or.inr (N y hy)).mono (by decide) (by decide)⟩⟩
theorem main_1_1 : Claimed_1_1 := comes_1 fun _ _ _ _ _ _ h hF => ⟨h.1, hF⟩
theorem main_1_2 : Claimed_1_2 := comes_1 fun _ _ _ _ _ _ h hF => ⟨h.2.1, hF⟩
end Jvm.Pilot.@@N@@
namespace Jvm.Pilot.@@N@@
open Jvm Jvm.ClassFile Sem Op Lib Jvm.Free Jvm.Stand Jvm.Pilot.@@N@@.Jvm.D
/-! MADE BY PROGRAM (witnessworld.py) out of the Statement's table words and the real class files: 9 classes; the members and pool entries that the words name. The judged class is class 1, her method 3. -/
namespace start1
open Jvm.ClassFile
def u (s : String) : CpInfo := .utf8 (stringToUtf16 s)
/-- a pool by its gaps: so many unusable entries, then the entry; so many at the end -/
def gap : Nat → List CpInfo → List CpInfo
  | 0, r => r
  | n + 1, r => .unusable :: gap n r
def poolList (es : List (Nat × CpInfo)) (last : Nat) : List CpInfo := es.foldr (fun e r => gap e.1 (e.2 :: r)) (gap last [])
def pool (es : List (Nat × CpInfo)) (last : Nat) : Array CpInfo := ⟨poolList es last⟩
def fileOf (pool : Array CpInfo) (this : Nat) (attrs : Array Attribute := #[]) (ms : Array MethodInfo := #[]) (fl : Nat := 33) (sup : Nat := 0) (ifs : Array Nat := #[]) (fds : Array FieldInfo := #[]) : ClassFile where
  minorVersion := 0
  majorVersion := 65
  constantPool := pool
  accessFlags := fl
  thisClass := this
  superClass := sup
  interfaces := ifs
  fields := fds
  methods := ms
  attributes := attrs
def plain (name : String) (sup : Option ClassId) : Class where
  name := name
  kind := .ordinary
  loader := none
  accessFlags := 33
  super := sup
  interfaces := #[]
  cf := none
  fields := #[]
  methods := #[]
  instanceTypes := #[]
  staticTypes := #[]
  resolved := #[]
  callSites := []
  init := .initialized
  statics := none
  mirror := none

def pool0 : Array CpInfo := pool [(5, u "<init>"), (0, u "()V"), (1, .class_ 10), (1, u "java/lang/Object")] 113

def k0c0 : Code := { maxStack := 0, maxLocals := 1, code := object_method_1_code, exceptionTable := #[], attributes := #[] }
def k0m0 : Method := { name := "<init>", desc := "()V", sig := { parameters := [], returnType := none }, accessFlags := 1, code := some k0c0 }
/-- java/lang/Object -/
def k0 : Class := { plain "java/lang/Object" none with
  accessFlags := 33
  interfaces := #[]
  cf := some (fileOf pool0 8 #[] #[{ accessFlags := 1, nameIndex := 5, descriptorIndex := 6, attributes := #[] }] 33 0 #[] #[])
  fields := #[]
  methods := #[k0m0]
  instanceTypes := #[]
  staticTypes := #[]
  resolved := Array.replicate 124 none
  statics := none }

def pool1 : Array CpInfo := pool [(2, .class_ 4), (1, u "java/lang/Object"), (0, u "<init>"), (0, u "()V"), (0, .long 2), (1, .long 13787848793156543929), (1, .long 10723151780598845931), (1, .methodref 14 15), (0, .class_ 16), (0, .nameAndType 17 18), (0, u "com/example/lockstep/lockstep/generate/SplitMix64NextLongPinLaw"), (0, u "inverse"), (0, u "(J)J"), (0, .long 11400714819323198485), (1, .class_ 22), (0, u "com/example/lockstep/lockstep/generate/SplitMix64"), (0, .methodref 21 24), (0, .nameAndType 5 25), (0, u "(J)V"), (0, .methodref 21 27), (0, .nameAndType 28 29), (0, u "nextLong"), (0, u "()J"), (0, .methodref 14 31), (0, .nameAndType 32 18), (0, u "unmix"), (2, u "law"), (0, u "(J)Z")] 3

def k1m0 : Method := { name := "<init>", desc := "()V", sig := { parameters := [], returnType := none }, accessFlags := 1, code := none }
def k1c1 : Code := { maxStack := 8, maxLocals := 4, code := method_2_code, exceptionTable := #[], attributes := #[] }
def k1m1 : Method := { name := "inverse", desc := "(J)J", sig := { parameters := [.long], returnType := some .long }, accessFlags := 10, code := some k1c1 }
def k1c2 : Code := { maxStack := 5, maxLocals := 8, code := method_3_code, exceptionTable := #[], attributes := #[] }
def k1m2 : Method := { name := "unmix", desc := "(J)J", sig := { parameters := [.long], returnType := some .long }, accessFlags := 10, code := some k1c2 }
def k1c3 : Code := { maxStack := 6, maxLocals := 9, code := code, exceptionTable := #[], attributes := #[] }
def k1m3 : Method := { name := "law", desc := "(J)Z", sig := { parameters := [.long], returnType := some .boolean }, accessFlags := 9, code := some k1c3 }
/-- com/example/lockstep/lockstep/generate/SplitMix64NextLongPinLaw -/
def k1 : Class := { plain "com/example/lockstep/lockstep/generate/SplitMix64NextLongPinLaw" (some 0) with
  accessFlags := 49
  interfaces := #[]
  cf := some (fileOf pool1 14 #[] #[{ accessFlags := 1, nameIndex := 5, descriptorIndex := 6, attributes := #[] }, { accessFlags := 10, nameIndex := 17, descriptorIndex := 18, attributes := #[] }, { accessFlags := 10, nameIndex := 32, descriptorIndex := 18, attributes := #[] }, { accessFlags := 9, nameIndex := 35, descriptorIndex := 36, attributes := #[] }] 49 2 #[] #[])
  fields := #[]
  methods := #[k1m0, k1m1, k1m2, k1m3]
  instanceTypes := #[]
  staticTypes := #[]
  resolved := Array.replicate 40 none
  statics := none }

def pool2 : Array CpInfo := pool [(1, .methodref 2 3), (0, .class_ 4), (0, .nameAndType 5 6), (0, u "java/lang/Object"), (0, u "<init>"), (0, u "()V"), (0, .fieldref 8 9), (0, .class_ 10), (0, .nameAndType 11 12), (0, u "com/example/lockstep/lockstep/generate/SplitMix64"), (0, u "state"), (0, u "J"), (0, .long 11400714819323198485), (1, .long 13787848793156543929), (1, .long 10723151780598845931), (3, u "nextLong"), (0, u "()J"), (6, u "GAMMA"), (1, u "(J)V")] 9

def k2c0 : Code := { maxStack := 3, maxLocals := 3, code := prog_56_method_1_code, exceptionTable := #[], attributes := #[] }
def k2m0 : Method := { name := "<init>", desc := "(J)V", sig := { parameters := [.long], returnType := none }, accessFlags := 0, code := some k2c0 }
def k2c1 : Code := { maxStack := 5, maxLocals := 3, code := prog_56_method_2_code, exceptionTable := #[], attributes := #[] }
def k2m1 : Method := { name := "nextLong", desc := "()J", sig := { parameters := [], returnType := some .long }, accessFlags := 0, code := some k2c1 }
/-- com/example/lockstep/lockstep/generate/SplitMix64 -/
def k2 : Class := { plain "com/example/lockstep/lockstep/generate/SplitMix64" (some 0) with
  accessFlags := 48
  interfaces := #[]
  cf := some (fileOf pool2 8 #[] #[{ accessFlags := 0, nameIndex := 5, descriptorIndex := 31, attributes := #[] }, { accessFlags := 0, nameIndex := 21, descriptorIndex := 22, attributes := #[] }] 48 2 #[] #[{ accessFlags := 26, nameIndex := 29, descriptorIndex := 12, attributes := #[] }, { accessFlags := 2, nameIndex := 11, descriptorIndex := 12, attributes := #[] }])
  fields := #[{ name := "GAMMA", type := .long, accessFlags := 26, slot := 0, constantValue := 0 }, { name := "state", type := .long, accessFlags := 2, slot := 0, constantValue := 0 }]
  methods := #[k2m0, k2m1]
  instanceTypes := #[.long]
  staticTypes := #[.long]
  resolved := Array.replicate 41 none
  statics := none }

def pool3 : Array CpInfo := pool [(1, u "java/lang/Cloneable"), (0, .class_ 1), (0, u "java/lang/Object"), (0, .class_ 3)] 3

/-- java/lang/Cloneable -/
def k3 : Class := { plain "java/lang/Cloneable" (some 0) with
  accessFlags := 1537
  interfaces := #[]
  cf := some (fileOf pool3 2 #[] #[] 1537 4 #[] #[])
  fields := #[]
  methods := #[]
  instanceTypes := #[]
  staticTypes := #[]
  resolved := Array.replicate 8 none
  statics := none }

def pool4 : Array CpInfo := pool [(1, u "java/io/Serializable"), (0, .class_ 1), (0, u "java/lang/Object"), (0, .class_ 3)] 3

/-- java/io/Serializable -/
def k4 : Class := { plain "java/io/Serializable" (some 0) with
  accessFlags := 1537
  interfaces := #[]
  cf := some (fileOf pool4 2 #[] #[] 1537 4 #[] #[])
  fields := #[]
  methods := #[]
  instanceTypes := #[]
  staticTypes := #[]
  resolved := Array.replicate 8 none
  statics := none }

/-- the primitive byte -/
def k5 : Class := { plain "byte" none with kind := .primitive 'B', accessFlags := 0x411 }
/-- [B -/
def k6 : Class := { plain "[B" (some 0) with kind := .array 5 .byte, interfaces := #[3, 4], accessFlags := 1041 }

/-- the primitive int -/
def k7 : Class := { plain "int" none with kind := .primitive 'I', accessFlags := 0x411 }
/-- [I -/
def k8 : Class := { plain "[I" (some 0) with kind := .array 7 .int, interfaces := #[3, 4], accessFlags := 1041 }

def heap : Heap := #[]
def classes : Array Class := #[k0, k1, k2, k3, k4, k5, k6, k7, k8]
def interned : List (Array UInt16 × Addr) := []
def slotsUsed : Nat := 0
def theMethod : MethodId := ⟨1, 3⟩
def args0 : Array Value := #[.long 5]
def aboutOver (below : List Frame) : State where
  vm := { classes := classes, interned := interned.toArray }
  heap := heap
  slotsUsed := slotsUsed
  threads := #[{ frames := .invoking theMethod args0 :: below }]
def below0 : List Frame := [.native { method := ⟨0, 0⟩, args := #[] }]
def about1 : State := aboutOver below0
def p0 : Program := .bare "" "" ""
def e0 : Env := launch0.env 0 0 0
theorem w_frames : about1.frames = Frame.invoking theMethod args0 :: below0 := rfl
set_option maxRecDepth 65536 in
theorem w_args : argsFit about1.vm theMethod args0 = true := by decide +kernel
set_option maxRecDepth 65536 in
theorem w_heap : heapFits about1 = true := by decide +kernel
set_option maxRecDepth 65536 in
theorem w_runnable : about1.curStatus? = some .runnable := by decide +kernel
set_option maxRecDepth 65536 in
theorem w_alone : about1.alone = true := by decide +kernel
set_option maxRecDepth 65536 in
theorem w_named : about1.methodNamed? x = some theMethod := by decide +kernel
set_option maxRecDepth 65536 in
theorem w_hears : about1.hears theMethod below0 = true := by decide +kernel
set_option maxRecDepth 65536 in
theorem w_ripe : about1.ripe theMethod args0 below0 = true := by decide +kernel
theorem w_running : about1.status = .running := rfl
set_option maxRecDepth 65536 in
theorem w_room : about1.hasRoom e0.platform room_1 = true :=
  launch0.hasRoom_least _ room_1 (by decide +kernel) (by decide +kernel) (by decide +kernel) (by decide +kernel) (by decide +kernel) (by decide +kernel)
theorem allAtoms_all (ts : List Jvm.Cond) (a : Array Jvm.Value) (st : Jvm.State) : (allAtoms ts).before a st = ts.all (fun c => c.before a st) := by
  induction ts with
  | nil => rfl
  | cons c t ih =>
    show (Jvm.Cond.and c (allAtoms t)).before a st = _
    rw [Jvm.Cond.before_and, ih, List.all_cons]
def words1 : List Jvm.Cond := Jvm.Cond.code x code maxLocals ret :: tables_1
/-- a 'code' word, met by the world's own term for the bytes: nothing is compared byte by byte -/
theorem code_word {y : MethodName} {bytes : ByteArray} {mx : Nat} {rt : Option FieldType} {a : Array Value} {s : State} {m : MethodId} {meth : Method} {c : Code} (h1 : s.methodNamed? y = some m) (h2 : s.vm.method? m = some meth) (h3 : meth.code = some c) (h4 : c.code = bytes)
    (h5 : (c.maxLocals == mx && c.exceptionTable.isEmpty && decide (c.maxStack ≤ mostOperands) && decide (meth.sig.returnType = rt) && !meth.locks && decide (parseMethodDescriptor y.desc = some meth.sig)) = true) : (Jvm.Cond.code y bytes mx rt).before a s = true := by
  simp only [Bool.and_eq_true, beq_iff_eq, Bool.not_eq_true', decide_eq_true_eq] at h5
  obtain ⟨⟨⟨⟨⟨g1, g2⟩, g3⟩, g4⟩, g5⟩, g6⟩ := h5
  simp [Cond.before, Cond.holds, Cond.value, h1, h2, h3, h4, g1, g2, g3, g4, g5, g6]
def isCode : Jvm.Cond → Bool
  | .code _ _ _ _ => true
  | _ => false
theorem all_split {L : List Jvm.Cond} {P : Jvm.Cond → Bool} (h1 : L.all (fun c => isCode c || P c) = true) (h2 : ∀ c ∈ L.filter isCode, P c = true) : L.all P = true := by
  refine List.all_eq_true.mpr fun c hc => ?_
  have h := List.all_eq_true.mp h1 c hc
  rcases Bool.eq_false_or_eq_true (isCode c) with hi | hi
  · exact h2 c (List.mem_filter.mpr ⟨hc, hi⟩)
  · simpa [hi] using h
set_option maxRecDepth 65536 in
theorem w_c0 : (Jvm.Cond.code x code maxLocals ret).before args0 about1 = true := code_word (m := ⟨1, 3⟩) (meth := k1m3) (c := k1c3) (by decide +kernel) rfl rfl rfl (by decide +kernel)
set_option maxRecDepth 65536 in
theorem w_c1 : (Jvm.Cond.code ({ cls := "com/example/lockstep/lockstep/generate/SplitMix64", name := "<init>", desc := "(J)V" } : Jvm.MethodName) prog_56_method_1_code (3 : Nat) (Option.none : Option Jvm.ClassFile.FieldType)).before args0 about1 = true := code_word (m := ⟨2, 0⟩) (meth := k2m0) (c := k2c0) (by decide +kernel) rfl rfl rfl (by decide +kernel)
set_option maxRecDepth 65536 in
theorem w_c2 : (Jvm.Cond.code ({ cls := "java/lang/Object", name := "<init>", desc := "()V" } : Jvm.MethodName) object_method_1_code (1 : Nat) (Option.none : Option Jvm.ClassFile.FieldType)).before args0 about1 = true := code_word (m := ⟨0, 0⟩) (meth := k0m0) (c := k0c0) (by decide +kernel) rfl rfl rfl (by decide +kernel)
set_option maxRecDepth 65536 in
theorem w_c3 : (Jvm.Cond.code ({ cls := "com/example/lockstep/lockstep/generate/SplitMix64", name := "nextLong", desc := "()J" } : Jvm.MethodName) prog_56_method_2_code (3 : Nat) (Option.some Jvm.ClassFile.FieldType.long)).before args0 about1 = true := code_word (m := ⟨2, 1⟩) (meth := k2m1) (c := k2c1) (by decide +kernel) rfl rfl rfl (by decide +kernel)
set_option maxRecDepth 65536 in
theorem w_c4 : (Jvm.Cond.code ({ cls := "com/example/lockstep/lockstep/generate/SplitMix64NextLongPinLaw", name := "unmix", desc := "(J)J" } : Jvm.MethodName) method_3_code (8 : Nat) (Option.some Jvm.ClassFile.FieldType.long)).before args0 about1 = true := code_word (m := ⟨1, 2⟩) (meth := k1m2) (c := k1c2) (by decide +kernel) rfl rfl rfl (by decide +kernel)
set_option maxRecDepth 65536 in
theorem w_c5 : (Jvm.Cond.code ({ cls := "com/example/lockstep/lockstep/generate/SplitMix64NextLongPinLaw", name := "inverse", desc := "(J)J" } : Jvm.MethodName) method_2_code (4 : Nat) (Option.some Jvm.ClassFile.FieldType.long)).before args0 about1 = true := code_word (m := ⟨1, 1⟩) (meth := k1m1) (c := k1c1) (by decide +kernel) rfl rfl rfl (by decide +kernel)
def codes1 : List Jvm.Cond := [Jvm.Cond.code x code maxLocals ret, Jvm.Cond.code ({ cls := "com/example/lockstep/lockstep/generate/SplitMix64", name := "<init>", desc := "(J)V" } : Jvm.MethodName) prog_56_method_1_code (3 : Nat) (Option.none : Option Jvm.ClassFile.FieldType), Jvm.Cond.code ({ cls := "java/lang/Object", name := "<init>", desc := "()V" } : Jvm.MethodName) object_method_1_code (1 : Nat) (Option.none : Option Jvm.ClassFile.FieldType), Jvm.Cond.code ({ cls := "com/example/lockstep/lockstep/generate/SplitMix64", name := "nextLong", desc := "()J" } : Jvm.MethodName) prog_56_method_2_code (3 : Nat) (Option.some Jvm.ClassFile.FieldType.long), Jvm.Cond.code ({ cls := "com/example/lockstep/lockstep/generate/SplitMix64NextLongPinLaw", name := "unmix", desc := "(J)J" } : Jvm.MethodName) method_3_code (8 : Nat) (Option.some Jvm.ClassFile.FieldType.long), Jvm.Cond.code ({ cls := "com/example/lockstep/lockstep/generate/SplitMix64NextLongPinLaw", name := "inverse", desc := "(J)J" } : Jvm.MethodName) method_2_code (4 : Nat) (Option.some Jvm.ClassFile.FieldType.long)]
set_option maxRecDepth 65536 in
theorem codes_eq : words1.filter isCode = codes1 := rfl
theorem w_codes : ∀ c ∈ words1.filter isCode, c.before args0 about1 = true := by
  rw [codes_eq]
  intro c hc
  simp only [codes1, List.mem_cons, List.not_mem_nil, or_false] at hc
  rcases hc with rfl | rfl | rfl | rfl | rfl | rfl
  · exact w_c0
  · exact w_c1
  · exact w_c2
  · exact w_c3
  · exact w_c4
  · exact w_c5
set_option maxRecDepth 65536 in
theorem w_t1 : (words1.take 24).all (fun c => isCode c || c.before args0 about1) = true := by decide +kernel
set_option maxRecDepth 65536 in
theorem w_t2 : (words1.drop 24).all (fun c => isCode c || c.before args0 about1) = true := by decide +kernel
theorem w_tables : (allAtoms (Jvm.Cond.code x code maxLocals ret :: tables_1)).before args0 about1 = true := by
  rw [allAtoms_all]
  show words1.all (fun c => c.before args0 about1) = true
  refine all_split ?_ w_codes
  rw [← List.take_append_drop 24 words1, List.all_append, w_t1, w_t2]
  rfl
set_option maxRecDepth 65536 in
theorem w_case : (Jvm.Cond.and given_1 narrow_1).before args0 about1 = true := by decide +kernel
theorem w_applies : (headSpec (Jvm.Cond.code x code maxLocals ret :: tables_1) room_1).applies x e0.platform about1 = true :=
  (Spec.applies_iff w_frames).mpr ⟨w_running, w_runnable, w_alone, w_named, w_hears, w_ripe, w_room, w_tables⟩
theorem atStart : AtStart classFile x code maxLocals ret World_1 tables_1 room_1 Calls_1 rest_1 Pre_1 launch0 p0 e0 about1 theMethod args0 below0 :=
  ⟨lists_1, trivial, launch0.admits_env _ _ _, launch0.least_env, fairChoices_fair.cas, fairChoices_fair.clock, w_frames, w_args, w_heap, w_applies, trivial, trivial, w_case⟩
end start1
theorem witness_1 : WitnessClaimed_1 := ⟨start1.p0, start1.e0, start1.about1, start1.theMethod, start1.args0, start1.below0, start1.atStart⟩
end Jvm.Pilot.@@N@@
