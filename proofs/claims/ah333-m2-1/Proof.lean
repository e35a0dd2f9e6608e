import JvmDerived
import JvmDerived.Pilot.@@N@@Statement
import JvmDerived.Pilot.@@N@@Code
set_option linter.unusedVariables false
set_option linter.unusedSimpArgs false
namespace Jvm.Pilot.@@N@@
open Jvm Jvm.ClassFile Sem Op Lib Jvm.Free Jvm.Stand Jvm.LawKit Jvm.RoadKit Bundle Jvm.Pilot.@@N@@.Jvm.D
/-! own layer: the run from a state ends in a return of which Q holds; one step leads from there to there -/
def own_ishl (x y : Int32) : Int32 := x <<< (y &&& 31)
def own_ishr (x y : Int32) : Int32 := x >>> (y &&& 31)
def own_iushr (x y : Int32) : Int32 := (x.toUInt32 >>> (y &&& 31).toUInt32).toInt32
def own_lshl (x : Int64) (y : Int32) : Int64 := x <<< (y &&& 0x3f).toInt64
def own_lshr (x : Int64) (y : Int32) : Int64 := x >>> (y &&& 0x3f).toInt64
def own_lushr (x : Int64) (y : Int32) : Int64 := (x.toUInt64 >>> (y &&& 0x3f).toInt64.toUInt64).toInt64
def own_i2b (x : Int32) : Int32 := x.toInt8.toInt32
def own_i2c (x : Int32) : Int32 := x.toUInt32.toUInt16.toUInt32.toInt32
def own_Fin (tb : Tables) (e : Env) (below : List Frame) (s : State) (Q : Option Value → Heap → List Loc → Prop) (k n : Nat) (t : State) : Prop :=
  ∃ s₂ o, Steps tb e below t s₂ ∧ s₂.status = .running ∧ Ended s₂ below o ∧ ∃ v L, o = .returned v ∧ Q v s₂.heap L ∧ FrameEnd s o s₂ L k n
theorem own_go {tb : Tables} {e : Env} {below : List Frame} {s : State} {Q : Option Value → Heap → List Loc → Prop} {k n : Nat} {t t' : State}
    (h : ∀ target, Steps tb e below t' target → Steps tb e below t target) (q : own_Fin tb e below s Q k n t') : own_Fin tb e below s Q k n t := by
  obtain ⟨s2, o, h1, h2⟩ := q
  exact ⟨s2, o, h _ h1, h2⟩
def own_QP (r : Option Value) (h0 : Heap) (n0 : Nat) (v : Option Value) (h : Heap) (L : List Loc) : Prop := v = r ∧ Fr n0 L ∧ h = h0
section OwnA
variable {p : Program} {l : Launch} {e : Env} {R : Room} {s : State} {m : MethodId} {args : Array Value} {below : List Frame} {meth : Method} {c : Code} {T : State} {locs : List Loc} {cells slots : Nat}
theorem own_mono (X : Stand p l e R s m args below meth c T locs cells slots) {k n : Nat} (hk : cells ≤ k) (hn : slots ≤ n) : Stand p l e R s m args below meth c T locs k n :=
  { X with same := X.same.mono hk hn }
theorem own_ret (X : Stand p l e R s m args below meth c T locs cells slots) (hx : p.tables.exec = Jvm.exec) (hlk : meth.locks = false) {pc : Nat} {Ls : Array Slot} {w : Value} {t : FieldType} {i : Instr} {rest : List Value} (hret : meth.sig.returnType = some t) (hn : narrow t w = w)
    (hi : (i = .ireturn ∧ (t = .int ∨ t = .boolean ∨ t = .byte ∨ t = .char ∨ t = .short) ∧ ∃ z, w = .int z) ∨ (i = .lreturn ∧ t = .long ∧ ∃ z, w = .long z) ∨ (i = .dreturn ∧ t = .double ∧ ∃ z, w = .double z) ∨ (i = .freturn ∧ t = .float ∧ ∃ z, w = .float z) ∨ (i = .areturn ∧ t.isReference = true ∧ w.isRef = true))
    (hd : decode c.code pc = .ok (i, 1)) {Q : Option Value → Heap → List Loc → Prop} {k n : Nat} (hk : cells ≤ k) (hs : slots ≤ n) (hQ : Q (some w) T.heap locs) :
    own_Fin p.tables e below s Q k n (T.setTop (mkF m pc Ls (w :: rest))) := by
  obtain ⟨fs, hr, hrun, hended, hW, hsame⟩ := X.leave (v := some w) (fun h => by rw [hret] at h; cases h) hlk
  exact ⟨_, _, retOut X hx hret hn hi hd hr, hrun, hended, _, _, rfl, hQ, ⟨_, rfl⟩, hW, hsame.mono hk hs⟩
theorem own_retV (X : Stand p l e R s m args below meth c T locs cells slots) (hx : p.tables.exec = Jvm.exec) (hlk : meth.locks = false) {pc : Nat} {Ls : Array Slot} (hret : meth.sig.returnType = none)
    (hd : decode c.code pc = .ok (.return_, 1)) {Q : Option Value → Heap → List Loc → Prop} {k n : Nat} (hk : cells ≤ k) (hs : slots ≤ n) (hQ : Q none T.heap locs) :
    own_Fin p.tables e below s Q k n (T.setTop (mkF m pc Ls [])) := by
  obtain ⟨fs, hr, hrun, hended, hW, hsame⟩ := X.leave (v := none) (fun _ => rfl) hlk
  exact ⟨_, _, X.returnOut hx hret hd hr, hrun, hended, _, _, rfl, hQ, ⟨_, rfl⟩, hW, hsame.mono hk hs⟩
end OwnA
theorem own_irem {tb : Tables} [Ours tb] {e : Env} {below : List Frame} {T target : State} {m : MethodId} {c : Code} {g : JFrame} (h : At T m c below) (hx : tb.exec = Jvm.exec) (hg : g.method = m) {x y : Int32} {rest : List Value} (hd : decode c.code g.pc = .ok (.irem, 1)) (hs : g.stack = .int y :: .int x :: rest) (hy : y ≠ 0)
    (hr : Steps tb e below (T.setTop { g with pc := g.pc + 1, stack := .int (x % y) :: rest }) target) : Steps tb e below (T.setTop g) target :=
  XS.irem h hx hg hd hs hy (by rw [irem_eq_mod x y]; exact hr)
theorem own_lrem {tb : Tables} [Ours tb] {e : Env} {below : List Frame} {T target : State} {m : MethodId} {c : Code} {g : JFrame} (h : At T m c below) (hx : tb.exec = Jvm.exec) (hg : g.method = m) {x y : Int64} {rest : List Value} (hd : decode c.code g.pc = .ok (.lrem, 1)) (hs : g.stack = .long y :: .long x :: rest) (hy : y ≠ 0)
    (hr : Steps tb e below (T.setTop { g with pc := g.pc + 1, stack := .long (x % y) :: rest }) target) : Steps tb e below (T.setTop g) target :=
  XS.lrem h hx hg hd hs hy (by rw [lrem_mod x y]; exact hr)
/-! arrays by a function of the place -/
def own_set {α : Type} (f : Nat → α) (j : Int32) (v : α) : Nat → α := fun i => if i = j.toNatClampNeg then v else f i
def own_Arf (Z : State) (h : Heap) (a : Addr) (ty : FieldType) (n : Int32) (f : Nat → Value) : Prop :=
  ∃ c : Cell, Arr Z h a c ty ∧ c.slots.size = n.toNatClampNeg ∧ ¬ n < 0 ∧ ∀ i, i < n.toNatClampNeg → c.slots[i]? = some (f i)
section OwnB
variable {Z : State} {h h' : Heap} {a b : Addr} {ty : FieldType} {n j : Int32} {f : Nat → Value} {ws : List Addr} {v : Value} {sl : Nat}
theorem own_Arf.lt (F : own_Arf Z h a ty n f) : a < h.size := by obtain ⟨c, A, -⟩ := F; exact A.lt
theorem own_Arf.ext (F : own_Arf Z h a ty n f) (E : Ext h h') : own_Arf Z h' a ty n f := by obtain ⟨c, A, r⟩ := F; exact ⟨c, A.ext E, r⟩
theorem own_Arf.other (F : own_Arf Z h b ty n f) (W : Wr h h' a sl v) (q : b ≠ a) : own_Arf Z h' b ty n f := by obtain ⟨c, A, r⟩ := F; exact ⟨c, A.other W q, r⟩
theorem own_Arf.keep (F : own_Arf Z h a ty n f) (K : Keep h h' ws) (q : a ∉ ws) : own_Arf Z h' a ty n f := by obtain ⟨c, A, r⟩ := F; exact ⟨c, ⟨K.2.1 a c A.1 q, A.2⟩, r⟩
theorem own_Arf.new {k : ClassId} (A : Arr Z h a (newA k ty n) ty) (q : ¬ n < 0) : own_Arf Z h a ty n (fun _ => defaultValue ty) :=
  ⟨_, A, sz_new _ _ _, q, fun i hi => by simp [newA, hi]⟩
theorem own_Arf.wr (F : own_Arf Z h a ty n f) (W : Wr h h' a j.toNatClampNeg v) : own_Arf Z h' a ty n (fun i => if i = j.toNatClampNeg then v else f i) := by
  obtain ⟨c, A, S, q, H⟩ := F
  refine ⟨_, A.same W, by rw [sz_set]; exact S, q, fun i hi => ?_⟩
  by_cases u : i = j.toNatClampNeg
  · subst u; simp [Cell.setSlot, S, hi]
  · simp only [if_neg u, Cell.setSlot]; rw [Array.getElem?_setIfInBounds_ne (Ne.symm u)]; exact H i hi
theorem own_Arf.fn {g : Nat → Value} (F : own_Arf Z h a ty n f) (q : ∀ i, i < n.toNatClampNeg → f i = g i) : own_Arf Z h a ty n g := by
  obtain ⟨c, A, S, q', H⟩ := F
  exact ⟨c, A, S, q', fun i hi => by rw [← q i hi]; exact H i hi⟩
variable {p : Program} {l : Launch} {e : Env} {R : Room} {s : State} {m : MethodId} {args : Array Value} {below : List Frame} {meth : Method} {c : Code} {T : State} {locs : List Loc} {cells slots : Nat} {g : JFrame} {rest : List Value}
theorem own_alen (X : Stand p l e R s m args below meth c T locs cells slots) (hx : p.tables.exec = Jvm.exec) (hZ : Z.Warmed39 s.vm) (eT : T.heap = h) (F : own_Arf Z h a ty n f) (hg : g.method = m) (hs : g.stack = .ref a :: rest) (hd : decode c.code g.pc = .ok (.arraylength, 1)) (target : State)
    (hr : Steps p.tables e below (T.setTop { g with pc := g.pc + 1, stack := .int n :: rest }) target) : Steps p.tables e below (T.setTop g) target := by
  obtain ⟨cl, A, S, q, H⟩ := F
  refine X.arraylength hx (by rw [eT]; exact A.1) (State.isArrayOf_alike hZ.alike A.2.1) hg hs hd _ ?_
  rw [len_of S q]; exact hr
theorem own_iaload (X : Stand p l e R s m args below meth c T locs cells slots) (hx : p.tables.exec = Jvm.exec) (hZ : Z.Warmed39 s.vm) (eT : T.heap = h) (F : own_Arf Z h a .int n f) (hj : ¬ j < 0 ∧ j < n) {x : Int32} (hv : f j.toNatClampNeg = .int x) (hg : g.method = m) (hs : g.stack = .int j :: .ref a :: rest) (hd : decode c.code g.pc = .ok (.iaload, 1)) (target : State)
    (hr : Steps p.tables e below (T.setTop { g with pc := g.pc + 1, stack := .int x :: rest }) target) : Steps p.tables e below (T.setTop g) target := by
  obtain ⟨cl, A, S, q, H⟩ := F
  have hin := inb_of S hj
  exact X.iaload hx (by rw [eT]; exact A.1) (State.isArrayOf_alike hZ.alike A.2.1) A.2.2 hin (by rw [H _ (by rw [← S]; omega), hv]) hg hs hd _ hr
theorem own_baload (X : Stand p l e R s m args below meth c T locs cells slots) (hx : p.tables.exec = Jvm.exec) (hZ : Z.Warmed39 s.vm) (eT : T.heap = h) (F : own_Arf Z h a .byte n f) (hj : ¬ j < 0 ∧ j < n) {x : Int32} (hv : f j.toNatClampNeg = .int x) (hg : g.method = m) (hs : g.stack = .int j :: .ref a :: rest) (hd : decode c.code g.pc = .ok (.baload, 1)) (target : State)
    (hr : Steps p.tables e below (T.setTop { g with pc := g.pc + 1, stack := .int x :: rest }) target) : Steps p.tables e below (T.setTop g) target := by
  obtain ⟨cl, A, S, q, H⟩ := F
  have hin := inb_of S hj
  exact X.baloadBytes hx (by rw [eT]; exact A.1) (State.isArrayOf_alike hZ.alike A.2.1) A.2.2 hin (by rw [H _ (by rw [← S]; omega), hv]) hg hs hd _ hr
theorem own_laload (X : Stand p l e R s m args below meth c T locs cells slots) (hx : p.tables.exec = Jvm.exec) (hZ : Z.Warmed39 s.vm) (eT : T.heap = h) (F : own_Arf Z h a .long n f) (hj : ¬ j < 0 ∧ j < n) {x : Int64} (hv : f j.toNatClampNeg = .long x) (hg : g.method = m) (hs : g.stack = .int j :: .ref a :: rest) (hd : decode c.code g.pc = .ok (.laload, 1)) (target : State)
    (hr : Steps p.tables e below (T.setTop { g with pc := g.pc + 1, stack := .long x :: rest }) target) : Steps p.tables e below (T.setTop g) target := by
  obtain ⟨cl, A, S, q, H⟩ := F
  have hin := inb_of S hj
  exact X.laload hx (by rw [eT]; exact A.1) (State.isArrayOf_alike hZ.alike A.2.1) A.2.2 hin (by rw [H _ (by rw [← S]; omega), hv]) hg hs hd _ hr
theorem own_stI (X : Stand p l e R s m args below meth c T locs cells slots) (hx : p.tables.exec = Jvm.exec) (hZ : Z.Warmed39 s.vm) (eT : T.heap = h) {q : Nat → Int32} (F : own_Arf Z h a .int n (fun i => .int (q i))) (hj : ¬ j < 0 ∧ j < n) {x : Int32} (hg : g.method = m) (hs : g.stack = .int x :: .int j :: .ref a :: rest) (hd : decode c.code g.pc = .ok (.iastore, 1)) :
    ∃ T' h', Stand p l e R s m args below meth c T' (locs ++ [⟨a, j.toNatClampNeg⟩]) cells slots ∧ T'.heap = h' ∧ Wr h h' a j.toNatClampNeg (.int x) ∧ own_Arf Z h' a .int n (fun i => .int (own_set q j x i)) ∧ ∀ target, Steps p.tables e below (T'.setTop { g with pc := g.pc + 1, stack := rest }) target → Steps p.tables e below (T.setTop g) target := by
  obtain ⟨cl, A, S, q1, H⟩ := F
  obtain ⟨T', h', X', e', W, st⟩ := stI X hx hZ eT A (inb_of S hj) hg hs hd
  refine ⟨T', h', X', e', W, (own_Arf.wr ⟨cl, A, S, q1, H⟩ W).fn fun i hi => ?_, st⟩
  simp only [own_set]; split <;> rfl
theorem own_stB (X : Stand p l e R s m args below meth c T locs cells slots) (hx : p.tables.exec = Jvm.exec) (hZ : Z.Warmed39 s.vm) (eT : T.heap = h) {q : Nat → Int32} (F : own_Arf Z h a .byte n (fun i => .int (q i))) (hj : ¬ j < 0 ∧ j < n) {x : Int32} (hg : g.method = m) (hs : g.stack = .int x :: .int j :: .ref a :: rest) (hd : decode c.code g.pc = .ok (.bastore, 1)) :
    ∃ T' h', Stand p l e R s m args below meth c T' (locs ++ [⟨a, j.toNatClampNeg⟩]) cells slots ∧ T'.heap = h' ∧ Wr h h' a j.toNatClampNeg (.int (own_i2b x)) ∧ own_Arf Z h' a .byte n (fun i => .int (own_set q j (own_i2b x) i)) ∧ ∀ target, Steps p.tables e below (T'.setTop { g with pc := g.pc + 1, stack := rest }) target → Steps p.tables e below (T.setTop g) target := by
  obtain ⟨cl, A, S, q1, H⟩ := F
  obtain ⟨T', h', X', e', W, st⟩ := stB X hx hZ eT A (inb_of S hj) hg hs hd
  refine ⟨T', h', X', e', W, (own_Arf.wr ⟨cl, A, S, q1, H⟩ W).fn fun i hi => ?_, st⟩
  simp only [own_set]; split <;> rfl
theorem own_stJ (X : Stand p l e R s m args below meth c T locs cells slots) (hx : p.tables.exec = Jvm.exec) (hZ : Z.Warmed39 s.vm) (eT : T.heap = h) {q : Nat → Int64} (F : own_Arf Z h a .long n (fun i => .long (q i))) (hj : ¬ j < 0 ∧ j < n) {x : Int64} (hg : g.method = m) (hs : g.stack = .long x :: .int j :: .ref a :: rest) (hd : decode c.code g.pc = .ok (.lastore, 1)) :
    ∃ T' h', Stand p l e R s m args below meth c T' (locs ++ [⟨a, j.toNatClampNeg⟩]) cells slots ∧ T'.heap = h' ∧ Wr h h' a j.toNatClampNeg (.long x) ∧ own_Arf Z h' a .long n (fun i => .long (own_set q j x i)) ∧ ∀ target, Steps p.tables e below (T'.setTop { g with pc := g.pc + 1, stack := rest }) target → Steps p.tables e below (T.setTop g) target := by
  obtain ⟨cl, A, S, q1, H⟩ := F
  obtain ⟨T', h', X', e', W, st⟩ := stJ X hx hZ eT A (inb_of S hj) hg hs hd
  refine ⟨T', h', X', e', W, (own_Arf.wr ⟨cl, A, S, q1, H⟩ W).fn fun i hi => ?_, st⟩
  simp only [own_set]; split <;> rfl
end OwnB
def own_QL (r : Option Value) (n0 : Nat) (v : Option Value) (h : Heap) (L : List Loc) : Prop := v = r ∧ Fr n0 L ∧ True
theorem own_ne_arf {Z : State} {h : Heap} {a b : Addr} {C : String} {ty : FieldType} {n : Int32} {f : Nat → Value} {a0 : Array Value} {k : Nat} (F : Exa Z h a C) (wi : (Cond.instantiable C k).before a0 Z = true) (G : own_Arf Z h b ty n f) : a ≠ b := by
  obtain ⟨c, A, -⟩ := G; exact ne_arr F wi A
def own_Two (a b : Slot) : Prop := (a = .unset ∧ b = .unset) ∨ ∃ x : Int64, a = .val (.long x) ∧ b = .second
theorem d1_0 : decode prog_18_method_15_code 0 = .ok (.lload_n 0, 1) := by decide +kernel
theorem d1_1 : decode prog_18_method_15_code 1 = .ok (.ldc2_w 241, 3) := by decide +kernel
theorem d1_4 : decode prog_18_method_15_code 4 = .ok (.ladd, 1) := by decide +kernel
theorem d1_5 : decode prog_18_method_15_code 5 = .ok (.lconst 1, 1) := by decide +kernel
theorem d1_6 : decode prog_18_method_15_code 6 = .ok (.lsub, 1) := by decide +kernel
theorem d1_7 : decode prog_18_method_15_code 7 = .ok (.ldc2_w 241, 3) := by decide +kernel
theorem d1_10 : decode prog_18_method_15_code 10 = .ok (.ldiv, 1) := by decide +kernel
theorem d1_11 : decode prog_18_method_15_code 11 = .ok (.ldc2_w 243, 3) := by decide +kernel
theorem d1_14 : decode prog_18_method_15_code 14 = .ok (.lmul, 1) := by decide +kernel
theorem d1_15 : decode prog_18_method_15_code 15 = .ok (.lreturn, 1) := by decide +kernel
theorem pn_1 : plainName "linearis/register/CountingView" = true := by first | (simp [plainName, overriddenIn]; done) | decide +kernel
theorem ef_1 (m : MethodId) (q0 : Int64) : entryFrame m #[(.long q0)] 2 = mkF m 0 #[.val (.long q0), .second] [] := by first | (simp [entryFrame, mkF, argsToLocals, Value.category]; done) | rfl
def own_rm1_room : Room := { frames := 0, cells := 0, slots := 0, locals := 0 }
def own_f1 (q0 : Int64) : Int64 := ((((q0 + (1024 : Int64)) - (1 : Int64)) / (1024 : Int64)) * (256 : Int64))
set_option maxRecDepth 65536 in
set_option maxHeartbeats 40000000 in
theorem rm1 (l : Launch) (Z : State) (a0 : Array Value) (hw : ∀ d ∈ tables_1, d.before a0 Z = true) (ws : List Jvm.Cond) (q0 : Int64) (h0 : Heap) (n0 : Nat) (Z0 : n0 ≤ h0.size) :
    MetFree l (⟨"linearis/register/CountingView", "recordBytes", "(J)J"⟩ : MethodName) (head1 (Jvm.Cond.code (⟨"linearis/register/CountingView", "recordBytes", "(J)J"⟩ : MethodName) prog_18_method_15_code 2 (some .long) :: ws) own_rm1_room) (fun a U => a = #[(.long q0)] ∧ Z.Warmed39 U.vm ∧ U.heap = h0) (fun _ _ _ _ _ => True) (fun _ U o U' => ∃ v L, o = .returned v ∧ own_QP (some (.long (own_f1 q0))) h0 n0 v U'.heap L ∧ FrameEnd U o U' L own_rm1_room.cells own_rm1_room.slots) := by
  refine MetFree.of_bodySF (plainFor_of_name pn_1) hisR ?_
  intro p e s m args below meth c s₁ Bd hml0 hP hK
  obtain ⟨rfl, hZ, hh⟩ := hP
  have hx := Bd.exec
  have hby := Bd.bytes
  have hml : c.maxLocals = 2 := hml0
  have hown : s.vm.findClass "linearis/register/CountingView" = some m.cls := findClass_of_methodNamed Bd.named
  have hnm := (name_of_methodNamed Bd.named Bd.method).1
  have hlk : meth.locks = false := BodyLoose.notSynchronized Bd
  have X0 : Stand p l e own_rm1_room s m #[(.long q0)] below meth c s₁ [] 0 0 := Stand.of_body Bd
  have e0 : s₁.heap = h0 := by rw [← hh, Bd.state]; rfl
  have N0 := Fr.nil n0
  show own_Fin p.tables e below s (own_QP (some (.long (own_f1 q0))) h0 n0) own_rm1_room.cells own_rm1_room.slots (s₁.setTop (entryFrame m #[(.long q0)] 2))
  rw [ef_1]
  show own_Fin _ _ _ _ _ _ _ (s₁.setTop (mkF m 0 #[.val (.long q0), .second] []))
  refine own_go (fun _ k => XS.lloadN X0.here hx rfl (hb hby d1_0) rfl k) ?_
  show own_Fin _ _ _ _ _ _ _ (s₁.setTop (mkF m 1 #[.val (.long q0), .second] [(.long q0)]))
  refine own_go (fun _ k => X0.ldc2Long hx hown (mvT hZ (hw _ (List.mem_of_getElem? (i := 6) rfl))) (g := (mkF m 1 #[.val (.long q0), .second] [(.long q0)])) rfl (hb hby d1_1) _ k) ?_
  show own_Fin _ _ _ _ _ _ _ (s₁.setTop (mkF m 4 #[.val (.long q0), .second] [(.long (1024 : Int64)), (.long q0)]))
  refine own_go (fun _ k => XS.ladd X0.here hx rfl (hb hby d1_4) rfl k) ?_
  show own_Fin _ _ _ _ _ _ _ (s₁.setTop (mkF m 5 #[.val (.long q0), .second] [(.long (q0 + (1024 : Int64)))]))
  refine own_go (fun _ k => XS.lconst X0.here hx rfl (hb hby d1_5) k) ?_
  show own_Fin _ _ _ _ _ _ _ (s₁.setTop (mkF m 6 #[.val (.long q0), .second] [(.long (1 : Int64)), (.long (q0 + (1024 : Int64)))]))
  refine own_go (fun _ k => XS.lsub X0.here hx rfl (hb hby d1_6) rfl k) ?_
  show own_Fin _ _ _ _ _ _ _ (s₁.setTop (mkF m 7 #[.val (.long q0), .second] [(.long ((q0 + (1024 : Int64)) - (1 : Int64)))]))
  refine own_go (fun _ k => X0.ldc2Long hx hown (mvT hZ (hw _ (List.mem_of_getElem? (i := 6) rfl))) (g := (mkF m 7 #[.val (.long q0), .second] [(.long ((q0 + (1024 : Int64)) - (1 : Int64)))])) rfl (hb hby d1_7) _ k) ?_
  show own_Fin _ _ _ _ _ _ _ (s₁.setTop (mkF m 10 #[.val (.long q0), .second] [(.long (1024 : Int64)), (.long ((q0 + (1024 : Int64)) - (1 : Int64)))]))
  refine own_go (fun _ k => XS.ldiv X0.here hx rfl (hb hby d1_10) rfl (by decide) k) ?_
  show own_Fin _ _ _ _ _ _ _ (s₁.setTop (mkF m 11 #[.val (.long q0), .second] [(.long (((q0 + (1024 : Int64)) - (1 : Int64)) / (1024 : Int64)))]))
  refine own_go (fun _ k => X0.ldc2Long hx hown (mvT hZ (hw _ (List.mem_of_getElem? (i := 7) rfl))) (g := (mkF m 11 #[.val (.long q0), .second] [(.long (((q0 + (1024 : Int64)) - (1 : Int64)) / (1024 : Int64)))])) rfl (hb hby d1_11) _ k) ?_
  show own_Fin _ _ _ _ _ _ _ (s₁.setTop (mkF m 14 #[.val (.long q0), .second] [(.long (256 : Int64)), (.long (((q0 + (1024 : Int64)) - (1 : Int64)) / (1024 : Int64)))]))
  refine own_go (fun _ k => XS.lmul X0.here hx rfl (hb hby d1_14) rfl k) ?_
  show own_Fin _ _ _ _ _ _ _ (s₁.setTop (mkF m 15 #[.val (.long q0), .second] [(.long ((((q0 + (1024 : Int64)) - (1 : Int64)) / (1024 : Int64)) * (256 : Int64)))]))
  refine own_ret X0 hx hlk Bd.returns rfl (Or.inr (Or.inl ⟨rfl, rfl, _, rfl⟩)) (hb hby d1_15) (Nat.le_of_ble_eq_true rfl) (Nat.le_of_ble_eq_true rfl) ?_
  refine ⟨?_, N0, e0⟩
  first | rfl | (simp only [own_f1]; done) | (simp only [own_f1]; rfl)
theorem own_pd11 : parseMethodDescriptor "(J)J" = some ⟨[.long], some .long⟩ := by decide +kernel
theorem pn_0 : plainName "linearis/register/CountingViewRecordBytesPinLaw" = true := by first | (simp [plainName, overriddenIn]; done) | decide +kernel
theorem ef_0 (m : MethodId) (q0 : Int64) : entryFrame m #[(.long q0)] maxLocals = mkF m 0 #[.val (.long q0), .second, .unset, .unset, .unset, .unset, .unset, .unset, .unset, .unset] [] := by first | (simp [entryFrame, mkF, argsToLocals, Value.category, maxLocals]; done) | rfl
def own_f0 (q0 : Int64) : Int32 := let z1 := (q0 &&& (9223372036854775807 : Int64)); (if (9223372036854774784 : Int64) < z1 then ((1 : Int32)) else (let z8 := (if (z1 % (1024 : Int64)) = (0 : Int64) then (z1 / (1024 : Int64)) else ((z1 / (1024 : Int64)) + (1 : Int64))); (if (own_f1 z1) = (z8 * (256 : Int64)) then ((1 : Int32)) else ((0 : Int32)))))
set_option maxRecDepth 65536 in
set_option maxHeartbeats 40000000 in
theorem rm0 (l : Launch) (Z : State) (a0 : Array Value) (hw : ∀ d ∈ tables_1, d.before a0 Z = true) (ws : List Jvm.Cond) (q0 : Int64) (h0 : Heap) (n0 : Nat) (Z0 : n0 ≤ h0.size) :
    MetFree l x (head1 (Jvm.Cond.code x code maxLocals ret :: ws) room_1) (fun a U => a = #[(.long q0)] ∧ Z.Warmed39 U.vm ∧ U.heap = h0) (fun _ _ _ _ _ => True) (fun _ U o U' => ∃ v L, o = .returned v ∧ own_QP (some (.int (own_f0 q0))) h0 n0 v U'.heap L ∧ FrameEnd U o U' L 0 0) := by
  refine MetFree.of_bodySF (plainFor_of_name pn_0) hisR ?_
  intro p e s m args below meth c s₁ Bd hml0 hP hK
  obtain ⟨rfl, hZ, hh⟩ := hP
  have hx := Bd.exec
  have hby := Bd.bytes
  have hml : c.maxLocals = 10 := hml0
  have hown : s.vm.findClass "linearis/register/CountingViewRecordBytesPinLaw" = some m.cls := findClass_of_methodNamed Bd.named
  have hnm := (name_of_methodNamed Bd.named Bd.method).1
  have hlk : meth.locks = false := BodyLoose.notSynchronized Bd
  have X0 : Stand p l e room_1 s m #[(.long q0)] below meth c s₁ [] 0 0 := Stand.of_body Bd
  have e0 : s₁.heap = h0 := by rw [← hh, Bd.state]; rfl
  have N0 := Fr.nil n0
  show own_Fin p.tables e below s (own_QP (some (.int (own_f0 q0))) h0 n0) 0 0 (s₁.setTop (entryFrame m #[(.long q0)] maxLocals))
  rw [ef_0]
  show own_Fin _ _ _ _ _ _ _ (s₁.setTop (mkF m 0 #[.val (.long q0), .second, .unset, .unset, .unset, .unset, .unset, .unset, .unset, .unset] []))
  refine own_go (fun _ k => XS.lloadN X0.here hx rfl (hb hby at_0) rfl k) ?_
  show own_Fin _ _ _ _ _ _ _ (s₁.setTop (mkF m 1 #[.val (.long q0), .second, .unset, .unset, .unset, .unset, .unset, .unset, .unset, .unset] [(.long q0)]))
  refine own_go (fun _ k => X0.ldc2Long hx hown (mvT hZ (hw _ (List.mem_of_getElem? (i := 0) rfl))) (g := (mkF m 1 #[.val (.long q0), .second, .unset, .unset, .unset, .unset, .unset, .unset, .unset, .unset] [(.long q0)])) rfl (hb hby at_1) _ k) ?_
  show own_Fin _ _ _ _ _ _ _ (s₁.setTop (mkF m 4 #[.val (.long q0), .second, .unset, .unset, .unset, .unset, .unset, .unset, .unset, .unset] [(.long (9223372036854775807 : Int64)), (.long q0)]))
  refine own_go (fun _ k => XS.land X0.here hx rfl (hb hby at_4) rfl k) ?_
  show own_Fin _ _ _ _ _ _ _ (s₁.setTop (mkF m 5 #[.val (.long q0), .second, .unset, .unset, .unset, .unset, .unset, .unset, .unset, .unset] [(.long (q0 &&& (9223372036854775807 : Int64)))]))
  refine own_go (fun _ k => XS.lstoreN X0.here hx rfl (hb hby at_5) rfl (l' := #[.val (.long q0), .second, .val (.long (q0 &&& (9223372036854775807 : Int64))), .second, .unset, .unset, .unset, .unset, .unset, .unset]) rfl k) ?_
  show own_Fin _ _ _ _ _ _ _ (s₁.setTop (mkF m 6 #[.val (.long q0), .second, .val (.long (q0 &&& (9223372036854775807 : Int64))), .second, .unset, .unset, .unset, .unset, .unset, .unset] []))
  generalize hz1 : (q0 &&& (9223372036854775807 : Int64)) = z1
  show own_Fin _ _ _ _ _ _ _ (s₁.setTop (mkF m 6 #[.val (.long q0), .second, .val (.long z1), .second, .unset, .unset, .unset, .unset, .unset, .unset] []))
  refine own_go (fun _ k => XS.lloadN X0.here hx rfl (hb hby at_6) rfl k) ?_
  show own_Fin _ _ _ _ _ _ _ (s₁.setTop (mkF m 7 #[.val (.long q0), .second, .val (.long z1), .second, .unset, .unset, .unset, .unset, .unset, .unset] [(.long z1)]))
  refine own_go (fun _ k => X0.ldc2Long hx hown (mvT hZ (hw _ (List.mem_of_getElem? (i := 1) rfl))) (g := (mkF m 7 #[.val (.long q0), .second, .val (.long z1), .second, .unset, .unset, .unset, .unset, .unset, .unset] [(.long z1)])) rfl (hb hby at_7) _ k) ?_
  show own_Fin _ _ _ _ _ _ _ (s₁.setTop (mkF m 10 #[.val (.long q0), .second, .val (.long z1), .second, .unset, .unset, .unset, .unset, .unset, .unset] [(.long (9223372036854774784 : Int64)), (.long z1)]))
  refine own_go (fun _ k => XS.lcmp X0.here hx rfl (hb hby at_10) rfl k) ?_
  show own_Fin _ _ _ _ _ _ _ (s₁.setTop (mkF m 11 #[.val (.long q0), .second, .val (.long z1), .second, .unset, .unset, .unset, .unset, .unset, .unset] [(.int (lcmpW z1 (9223372036854774784 : Int64)))]))
  by_cases hc2 : (9223372036854774784 : Int64) < z1
  · refine own_go (fun _ k => XS.ifNo X0.here hx rfl (hb hby at_11) rfl ((if0 _ _).trans (tlt ((lw_gt _ _).mpr hc2)).2.2.2) k) ?_
    show own_Fin _ _ _ _ _ _ _ (s₁.setTop (mkF m 14 #[.val (.long q0), .second, .val (.long z1), .second, .unset, .unset, .unset, .unset, .unset, .unset] []))
    refine own_go (fun _ k => XS.iconst X0.here hx rfl (hb hby at_14) k) ?_
    show own_Fin _ _ _ _ _ _ _ (s₁.setTop (mkF m 15 #[.val (.long q0), .second, .val (.long z1), .second, .unset, .unset, .unset, .unset, .unset, .unset] [(.int (1 : Int32))]))
    refine own_ret X0 hx hlk Bd.returns rfl (Or.inl ⟨rfl, by simp, _, rfl⟩) (hb hby at_15) (Nat.le_of_ble_eq_true rfl) (Nat.le_of_ble_eq_true rfl) ?_
    refine ⟨?_, N0, e0⟩
    try subst hz1
    first | rfl | (simp only [own_f0, if_pos hc2]; done) | (simp only [own_f0, if_pos hc2]; rfl)
  · refine own_go (fun _ k => XS.ifYes X0.here hx rfl (pc0 := 11) (pc' := 16) rfl (hb hby at_11) rfl ((if0 _ _).trans (flt (mt (lw_gt _ _).mp hc2)).2.2.2) (by decide) (by decide) k) ?_
    show own_Fin _ _ _ _ _ _ _ (s₁.setTop (mkF m 16 #[.val (.long q0), .second, .val (.long z1), .second, .unset, .unset, .unset, .unset, .unset, .unset] []))
    refine own_go (fun _ k => XS.lloadN X0.here hx rfl (hb hby at_16) rfl k) ?_
    show own_Fin _ _ _ _ _ _ _ (s₁.setTop (mkF m 17 #[.val (.long q0), .second, .val (.long z1), .second, .unset, .unset, .unset, .unset, .unset, .unset] [(.long z1)]))
    obtain ⟨_, _, ⟨T3, L3, k3, n3⟩, -, X3, ⟨Lc3, hQ3, l3, y3, z3⟩, st3⟩ := Jvm.LawKit.callS X0 hx (y := (⟨"linearis/register/CountingView", "recordBytes", "(J)J"⟩ : MethodName)) hown (mvT hZ (hw _ (List.mem_of_getElem? (i := 2) rfl))) (mvT hZ (hw _ (List.mem_of_getElem? (i := 3) rfl))) (mvT hZ (hw _ (List.mem_of_getElem? (i := 4) rfl))) (mvT hZ (hw _ (List.mem_of_getElem? (i := 5) rfl))) (by decide) (backOf (W := 0) (rm1 l Z a0 hw [] z1 h0 n0 Z0) hZ (hw _ (List.mem_of_getElem? (i := 5) rfl)) (hw _ (List.mem_of_getElem? (i := 4) rfl)) (by decide) (by decide)) (g := (mkF m 17 #[.val (.long q0), .second, .val (.long z1), .second, .unset, .unset, .unset, .unset, .unset, .unset] [(.long z1)])) rfl (by rw [hml]; rfl) (argsL := [(.long z1)]) (rest := []) (lenOf own_pd11 rfl) rfl (by show 2 * 0 + _ ≤ _; exact Nat.le_of_eq rfl) (hb hby at_17) (fun _ _ => ⟨rfl, e0, (by decide : 0 + 0 ≤ _), (by decide : 0 + 0 ≤ _)⟩)
    dsimp only [Pt.U, Pt.locs, Pt.cells, Pt.slots] at X3 l3 y3 z3 st3 hQ3
    subst l3 y3 z3
    obtain ⟨rfl, N3q, e3⟩ := hQ3
    have N3 := Fr.app N0 N3q
    refine own_go (fun tg k => st3 tg k) ?_
    show own_Fin _ _ _ _ _ _ _ (T3.setTop (mkF m 20 #[.val (.long q0), .second, .val (.long z1), .second, .unset, .unset, .unset, .unset, .unset, .unset] [(.long (own_f1 z1))]))
    refine own_go (fun _ k => XS.lstore X3.here hx rfl (hb hby at_20) rfl (l' := #[.val (.long q0), .second, .val (.long z1), .second, .val (.long (own_f1 z1)), .second, .unset, .unset, .unset, .unset]) rfl k) ?_
    show own_Fin _ _ _ _ _ _ _ (T3.setTop (mkF m 22 #[.val (.long q0), .second, .val (.long z1), .second, .val (.long (own_f1 z1)), .second, .unset, .unset, .unset, .unset] []))
    refine own_go (fun _ k => XS.lloadN X3.here hx rfl (hb hby at_22) rfl k) ?_
    show own_Fin _ _ _ _ _ _ _ (T3.setTop (mkF m 23 #[.val (.long q0), .second, .val (.long z1), .second, .val (.long (own_f1 z1)), .second, .unset, .unset, .unset, .unset] [(.long z1)]))
    refine own_go (fun _ k => X3.ldc2Long hx hown (mvT hZ (hw _ (List.mem_of_getElem? (i := 8) rfl))) (g := (mkF m 23 #[.val (.long q0), .second, .val (.long z1), .second, .val (.long (own_f1 z1)), .second, .unset, .unset, .unset, .unset] [(.long z1)])) rfl (hb hby at_23) _ k) ?_
    show own_Fin _ _ _ _ _ _ _ (T3.setTop (mkF m 26 #[.val (.long q0), .second, .val (.long z1), .second, .val (.long (own_f1 z1)), .second, .unset, .unset, .unset, .unset] [(.long (1024 : Int64)), (.long z1)]))
    refine own_go (fun _ k => XS.ldiv X3.here hx rfl (hb hby at_26) rfl (by decide) k) ?_
    show own_Fin _ _ _ _ _ _ _ (T3.setTop (mkF m 27 #[.val (.long q0), .second, .val (.long z1), .second, .val (.long (own_f1 z1)), .second, .unset, .unset, .unset, .unset] [(.long (z1 / (1024 : Int64)))]))
    refine own_go (fun _ k => XS.lstore X3.here hx rfl (hb hby at_27) rfl (l' := #[.val (.long q0), .second, .val (.long z1), .second, .val (.long (own_f1 z1)), .second, .val (.long (z1 / (1024 : Int64))), .second, .unset, .unset]) rfl k) ?_
    show own_Fin _ _ _ _ _ _ _ (T3.setTop (mkF m 29 #[.val (.long q0), .second, .val (.long z1), .second, .val (.long (own_f1 z1)), .second, .val (.long (z1 / (1024 : Int64))), .second, .unset, .unset] []))
    refine own_go (fun _ k => XS.lloadN X3.here hx rfl (hb hby at_29) rfl k) ?_
    show own_Fin _ _ _ _ _ _ _ (T3.setTop (mkF m 30 #[.val (.long q0), .second, .val (.long z1), .second, .val (.long (own_f1 z1)), .second, .val (.long (z1 / (1024 : Int64))), .second, .unset, .unset] [(.long z1)]))
    refine own_go (fun _ k => X3.ldc2Long hx hown (mvT hZ (hw _ (List.mem_of_getElem? (i := 8) rfl))) (g := (mkF m 30 #[.val (.long q0), .second, .val (.long z1), .second, .val (.long (own_f1 z1)), .second, .val (.long (z1 / (1024 : Int64))), .second, .unset, .unset] [(.long z1)])) rfl (hb hby at_30) _ k) ?_
    show own_Fin _ _ _ _ _ _ _ (T3.setTop (mkF m 33 #[.val (.long q0), .second, .val (.long z1), .second, .val (.long (own_f1 z1)), .second, .val (.long (z1 / (1024 : Int64))), .second, .unset, .unset] [(.long (1024 : Int64)), (.long z1)]))
    refine own_go (fun _ k => own_lrem X3.here hx rfl (hb hby at_33) rfl (by decide) k) ?_
    show own_Fin _ _ _ _ _ _ _ (T3.setTop (mkF m 34 #[.val (.long q0), .second, .val (.long z1), .second, .val (.long (own_f1 z1)), .second, .val (.long (z1 / (1024 : Int64))), .second, .unset, .unset] [(.long (z1 % (1024 : Int64)))]))
    refine own_go (fun _ k => XS.lconst X3.here hx rfl (hb hby at_34) k) ?_
    show own_Fin _ _ _ _ _ _ _ (T3.setTop (mkF m 35 #[.val (.long q0), .second, .val (.long z1), .second, .val (.long (own_f1 z1)), .second, .val (.long (z1 / (1024 : Int64))), .second, .unset, .unset] [(.long (0 : Int64)), (.long (z1 % (1024 : Int64)))]))
    refine own_go (fun _ k => XS.lcmp X3.here hx rfl (hb hby at_35) rfl k) ?_
    show own_Fin _ _ _ _ _ _ _ (T3.setTop (mkF m 36 #[.val (.long q0), .second, .val (.long z1), .second, .val (.long (own_f1 z1)), .second, .val (.long (z1 / (1024 : Int64))), .second, .unset, .unset] [(.int (lcmpW (z1 % (1024 : Int64)) (0 : Int64)))]))
    have hk5 : ∀ (T' : State) (L' : List Loc), Stand p l e room_1 s m #[(.long q0)] below meth c T' L' 0 0 → Fr n0 L' → T'.heap = h0 → own_Fin p.tables e below s (own_QP (some (.int (own_f0 q0))) h0 n0) 0 0 (T'.setTop (mkF m 45 #[.val (.long q0), .second, .val (.long z1), .second, .val (.long (own_f1 z1)), .second, .val (.long (if (z1 % (1024 : Int64)) = (0 : Int64) then (z1 / (1024 : Int64)) else ((z1 / (1024 : Int64)) + (1 : Int64)))), .second, .unset, .unset] [])) := by
      intro T7 L7 X7 N7 e7
      generalize hz8 : (if (z1 % (1024 : Int64)) = (0 : Int64) then (z1 / (1024 : Int64)) else ((z1 / (1024 : Int64)) + (1 : Int64))) = z8
      show own_Fin _ _ _ _ _ _ _ (T7.setTop (mkF m 45 #[.val (.long q0), .second, .val (.long z1), .second, .val (.long (own_f1 z1)), .second, .val (.long z8), .second, .unset, .unset] []))
      refine own_go (fun _ k => XS.lload X7.here hx rfl (hb hby at_45) rfl k) ?_
      show own_Fin _ _ _ _ _ _ _ (T7.setTop (mkF m 47 #[.val (.long q0), .second, .val (.long z1), .second, .val (.long (own_f1 z1)), .second, .val (.long z8), .second, .unset, .unset] [(.long z8)]))
      refine own_go (fun _ k => X7.ldc2Long hx hown (mvT hZ (hw _ (List.mem_of_getElem? (i := 9) rfl))) (g := (mkF m 47 #[.val (.long q0), .second, .val (.long z1), .second, .val (.long (own_f1 z1)), .second, .val (.long z8), .second, .unset, .unset] [(.long z8)])) rfl (hb hby at_47) _ k) ?_
      show own_Fin _ _ _ _ _ _ _ (T7.setTop (mkF m 50 #[.val (.long q0), .second, .val (.long z1), .second, .val (.long (own_f1 z1)), .second, .val (.long z8), .second, .unset, .unset] [(.long (256 : Int64)), (.long z8)]))
      refine own_go (fun _ k => XS.lmul X7.here hx rfl (hb hby at_50) rfl k) ?_
      show own_Fin _ _ _ _ _ _ _ (T7.setTop (mkF m 51 #[.val (.long q0), .second, .val (.long z1), .second, .val (.long (own_f1 z1)), .second, .val (.long z8), .second, .unset, .unset] [(.long (z8 * (256 : Int64)))]))
      refine own_go (fun _ k => XS.lstore X7.here hx rfl (hb hby at_51) rfl (l' := #[.val (.long q0), .second, .val (.long z1), .second, .val (.long (own_f1 z1)), .second, .val (.long z8), .second, .val (.long (z8 * (256 : Int64))), .second]) rfl k) ?_
      show own_Fin _ _ _ _ _ _ _ (T7.setTop (mkF m 53 #[.val (.long q0), .second, .val (.long z1), .second, .val (.long (own_f1 z1)), .second, .val (.long z8), .second, .val (.long (z8 * (256 : Int64))), .second] []))
      refine own_go (fun _ k => XS.lload X7.here hx rfl (hb hby at_53) rfl k) ?_
      show own_Fin _ _ _ _ _ _ _ (T7.setTop (mkF m 55 #[.val (.long q0), .second, .val (.long z1), .second, .val (.long (own_f1 z1)), .second, .val (.long z8), .second, .val (.long (z8 * (256 : Int64))), .second] [(.long (own_f1 z1))]))
      refine own_go (fun _ k => XS.lload X7.here hx rfl (hb hby at_55) rfl k) ?_
      show own_Fin _ _ _ _ _ _ _ (T7.setTop (mkF m 57 #[.val (.long q0), .second, .val (.long z1), .second, .val (.long (own_f1 z1)), .second, .val (.long z8), .second, .val (.long (z8 * (256 : Int64))), .second] [(.long (z8 * (256 : Int64))), (.long (own_f1 z1))]))
      refine own_go (fun _ k => XS.lcmp X7.here hx rfl (hb hby at_57) rfl k) ?_
      show own_Fin _ _ _ _ _ _ _ (T7.setTop (mkF m 58 #[.val (.long q0), .second, .val (.long z1), .second, .val (.long (own_f1 z1)), .second, .val (.long z8), .second, .val (.long (z8 * (256 : Int64))), .second] [(.int (lcmpW (own_f1 z1) (z8 * (256 : Int64))))]))
      by_cases hc9 : (own_f1 z1) = (z8 * (256 : Int64))
      · refine own_go (fun _ k => XS.ifNo X7.here hx rfl (hb hby at_58) rfl ((if0 _ _).trans (teq ((lw_eq _ _).mpr hc9)).2) k) ?_
        show own_Fin _ _ _ _ _ _ _ (T7.setTop (mkF m 61 #[.val (.long q0), .second, .val (.long z1), .second, .val (.long (own_f1 z1)), .second, .val (.long z8), .second, .val (.long (z8 * (256 : Int64))), .second] []))
        refine own_go (fun _ k => XS.iconst X7.here hx rfl (hb hby at_61) k) ?_
        show own_Fin _ _ _ _ _ _ _ (T7.setTop (mkF m 62 #[.val (.long q0), .second, .val (.long z1), .second, .val (.long (own_f1 z1)), .second, .val (.long z8), .second, .val (.long (z8 * (256 : Int64))), .second] [(.int (1 : Int32))]))
        refine own_go (fun _ k => XS.goto X7.here hx rfl (pc0 := 62) (pc' := 66) rfl (hb hby at_62) (by decide) (by decide) k) ?_
        show own_Fin _ _ _ _ _ _ _ (T7.setTop (mkF m 66 #[.val (.long q0), .second, .val (.long z1), .second, .val (.long (own_f1 z1)), .second, .val (.long z8), .second, .val (.long (z8 * (256 : Int64))), .second] [(.int (1 : Int32))]))
        refine own_ret X7 hx hlk Bd.returns rfl (Or.inl ⟨rfl, by simp, _, rfl⟩) (hb hby at_66) (Nat.le_of_ble_eq_true rfl) (Nat.le_of_ble_eq_true rfl) ?_
        refine ⟨?_, N7, e7⟩
        try subst hz8
        try subst hz1
        first | rfl | (simp only [own_f0, if_neg hc2, if_pos hc9]; done) | (simp only [own_f0, if_neg hc2, if_pos hc9]; rfl)
      · refine own_go (fun _ k => XS.ifYes X7.here hx rfl (pc0 := 58) (pc' := 65) rfl (hb hby at_58) rfl ((if0 _ _).trans (feq (mt (lw_eq _ _).mp hc9)).2) (by decide) (by decide) k) ?_
        show own_Fin _ _ _ _ _ _ _ (T7.setTop (mkF m 65 #[.val (.long q0), .second, .val (.long z1), .second, .val (.long (own_f1 z1)), .second, .val (.long z8), .second, .val (.long (z8 * (256 : Int64))), .second] []))
        refine own_go (fun _ k => XS.iconst X7.here hx rfl (hb hby at_65) k) ?_
        show own_Fin _ _ _ _ _ _ _ (T7.setTop (mkF m 66 #[.val (.long q0), .second, .val (.long z1), .second, .val (.long (own_f1 z1)), .second, .val (.long z8), .second, .val (.long (z8 * (256 : Int64))), .second] [(.int (0 : Int32))]))
        refine own_ret X7 hx hlk Bd.returns rfl (Or.inl ⟨rfl, by simp, _, rfl⟩) (hb hby at_66) (Nat.le_of_ble_eq_true rfl) (Nat.le_of_ble_eq_true rfl) ?_
        refine ⟨?_, N7, e7⟩
        try subst hz8
        try subst hz1
        first | rfl | (simp only [own_f0, if_neg hc2, if_neg hc9]; done) | (simp only [own_f0, if_neg hc2, if_neg hc9]; rfl)
    by_cases hc4 : (z1 % (1024 : Int64)) = (0 : Int64)
    · refine own_go (fun _ k => XS.ifYes X3.here hx rfl (pc0 := 36) (pc' := 45) rfl (hb hby at_36) rfl ((if0 _ _).trans (teq ((lw_eq _ _).mpr hc4)).1) (by decide) (by decide) k) ?_
      show own_Fin _ _ _ _ _ _ _ (T3.setTop (mkF m 45 #[.val (.long q0), .second, .val (.long z1), .second, .val (.long (own_f1 z1)), .second, .val (.long (z1 / (1024 : Int64))), .second, .unset, .unset] []))
      have kj := hk5 T3 _ (own_mono X3 (by decide) (by decide)) N3 e3
      try subst hz1
      simpa only [if_neg hc2, if_pos hc4] using kj
    · refine own_go (fun _ k => XS.ifNo X3.here hx rfl (hb hby at_36) rfl ((if0 _ _).trans (feq (mt (lw_eq _ _).mp hc4)).1) k) ?_
      show own_Fin _ _ _ _ _ _ _ (T3.setTop (mkF m 39 #[.val (.long q0), .second, .val (.long z1), .second, .val (.long (own_f1 z1)), .second, .val (.long (z1 / (1024 : Int64))), .second, .unset, .unset] []))
      refine own_go (fun _ k => XS.lload X3.here hx rfl (hb hby at_39) rfl k) ?_
      show own_Fin _ _ _ _ _ _ _ (T3.setTop (mkF m 41 #[.val (.long q0), .second, .val (.long z1), .second, .val (.long (own_f1 z1)), .second, .val (.long (z1 / (1024 : Int64))), .second, .unset, .unset] [(.long (z1 / (1024 : Int64)))]))
      refine own_go (fun _ k => XS.lconst X3.here hx rfl (hb hby at_41) k) ?_
      show own_Fin _ _ _ _ _ _ _ (T3.setTop (mkF m 42 #[.val (.long q0), .second, .val (.long z1), .second, .val (.long (own_f1 z1)), .second, .val (.long (z1 / (1024 : Int64))), .second, .unset, .unset] [(.long (1 : Int64)), (.long (z1 / (1024 : Int64)))]))
      refine own_go (fun _ k => XS.ladd X3.here hx rfl (hb hby at_42) rfl k) ?_
      show own_Fin _ _ _ _ _ _ _ (T3.setTop (mkF m 43 #[.val (.long q0), .second, .val (.long z1), .second, .val (.long (own_f1 z1)), .second, .val (.long (z1 / (1024 : Int64))), .second, .unset, .unset] [(.long ((z1 / (1024 : Int64)) + (1 : Int64)))]))
      refine own_go (fun _ k => XS.lstore X3.here hx rfl (hb hby at_43) rfl (l' := #[.val (.long q0), .second, .val (.long z1), .second, .val (.long (own_f1 z1)), .second, .val (.long ((z1 / (1024 : Int64)) + (1 : Int64))), .second, .unset, .unset]) rfl k) ?_
      show own_Fin _ _ _ _ _ _ _ (T3.setTop (mkF m 45 #[.val (.long q0), .second, .val (.long z1), .second, .val (.long (own_f1 z1)), .second, .val (.long ((z1 / (1024 : Int64)) + (1 : Int64))), .second, .unset, .unset] []))
      generalize hz6 : ((z1 / (1024 : Int64)) + (1 : Int64)) = z6
      show own_Fin _ _ _ _ _ _ _ (T3.setTop (mkF m 45 #[.val (.long q0), .second, .val (.long z1), .second, .val (.long (own_f1 z1)), .second, .val (.long z6), .second, .unset, .unset] []))
      have kj := hk5 T3 _ (own_mono X3 (by decide) (by decide)) N3 e3
      try subst hz6
      try subst hz1
      simpa only [if_neg hc2, if_neg hc4] using kj
set_option maxRecDepth 65536 in
theorem own_plain (q0 : Int64) : own_f0 q0 = 1 := by
  have hm := c_maskL q0 9223372036854775807 63 (by decide) (by decide)
  simp only [own_f0, own_f1]
  generalize (q0 &&& (9223372036854775807 : Int64)) = r at *
  have r0 : 0 ≤ r.toInt := by rw [hm]; omega
  have r1 := rng64 r
  have k1 : (9223372036854774784 : Int64).toInt = 9223372036854774784 := by decide
  have k2 : (1024 : Int64).toInt = 1024 := by decide
  have k3 : (1 : Int64).toInt = 1 := by decide
  have k0 : (0 : Int64).toInt = 0 := by decide
  by_cases h1 : (9223372036854774784 : Int64) < r
  · rw [if_pos h1]
  · rw [if_neg h1]
    rw [Int64.lt_iff_toInt_lt, k1] at h1
    have a1 := c_ladd r 1024
    have a2 := c_lsub (r + 1024) 1
    have b1 := rng64 (r + 1024)
    have b2 := rng64 (r + 1024 - 1)
    have d1 := (c_ldiv (r + 1024 - 1) 1024 1024 k2 (by decide)).1 (by omega)
    have d2 := (c_ldiv r 1024 1024 k2 (by decide)).1 r0
    have d3 := (c_lrem r 1024 1024 k2).1 r0
    rw [lrem_mod] at d3
    have e : (r + 1024 - 1) / 1024 = (if r % 1024 = 0 then r / 1024 else r / 1024 + 1) := by
      by_cases h2 : r % 1024 = 0
      · rw [if_pos h2]
        have h3 : (r % 1024).toInt = 0 := by rw [h2]; exact k0
        apply Int64.toInt_inj.mp; omega
      · rw [if_neg h2]
        have h3 : (r % 1024).toInt ≠ 0 := fun q => h2 (Int64.toInt_inj.mp (q.trans k0.symm))
        have a3 := c_ladd (r / 1024) 1
        have b3 := rng64 (r / 1024 + 1)
        apply Int64.toInt_inj.mp; omega
    exact if_pos (congrArg (fun z : Int64 => z * 256) e)
set_option maxRecDepth 65536 in
set_option maxHeartbeats 40000000 in
theorem comes_1 {Post : Tables → Env → Array Value → State → Outcome → State → Prop} (hpost : ∀ tb e args s v u, (limb_1_1.after args s (.returned v) u = true ∧ limb_1_2.after args s (.returned v) u = true ∧ True) → FrameEnd s (.returned v) u (Jvm.fieldLocs frame_1_writes args s ++ Jvm.arrayLocs frame_1_arrays args s ++ Jvm.staticLocs frame_1_statics s) 0 0 → Post tb e args s (.returned v) u) :
    ArmFor flags0 classFile x code maxLocals ret World_1 tables_1 room_1 Calls_1 rest_1 Pre_1 Post := by
  intro l hfl _ _ p e ha hc hk s m args below hf hA hF happ hP
  obtain ⟨hcalls, hrest, hpre⟩ := hP
  obtain ⟨-, -, -, hnamed, -, -, -, hat⟩ := (Spec.applies_iff hf).mp happ
  obtain ⟨hg, hn⟩ := and_e (Cond.before_iff.mp (show (Jvm.Cond.and given_1 narrow_1).before args s = true from hpre))
  obtain ⟨g1, g2⟩ := and_e hg
  obtain ⟨w0, rfl⟩ : ∃ w0 : Value, args = #[w0] := by
    have hs : args.size = 1 := by simpa [Cond.value, given_1] using g1
    obtain ⟨L⟩ := args
    match L, hs with
    | [w0], _ => exact ⟨w0, rfl⟩
  have hw := fun d (hd : d ∈ tables_1) => atoms_spec (ws := Jvm.Cond.code x code maxLocals ret :: tables_1) hat d (List.mem_cons_of_mem _ hd)
  have hfit : Fit s := fun {y c} hc i hi => by
    obtain ⟨ha, rfl⟩ := Array.getElem?_eq_some_iff.mp hc
    have q := List.all_eq_true.mp ((Array.all_eq_true_iff_forall_mem.mp hF) _ (Array.getElem_mem ha)) i (List.mem_range.mpr hi)
    simpa [Array.getElem?_eq_getElem hi] using q
  obtain ⟨i0, ei0⟩ := isL_v g2
  obtain rfl : w0 = (.long i0) := Option.some.inj ei0
  obtain ⟨n, o, h1, h2, h3, _, L, rfl, ⟨rfl, N, hrest'⟩, hq⟩ := rm0 l s _ hw tables_1 i0 s.heap s.heap.size (Nat.le_refl _) p e ha hc hk s m _ below hf ((Spec.applies_iff_loose hf).mp happ).1 ⟨rfl, State.Warmed39.refl s, rfl⟩ trivial
  refine ⟨n, _, h1, h2, h3, hpost _ _ _ _ _ _ ⟨Cond.after_iff.mpr rfl, Cond.after_iff.mpr (eq_i res_at (Term.int_eval (1)) (congrArg Value.int (own_plain i0))), trivial⟩ ⟨hq.1, hq.2.1, (hq.2.2.sift fun y hy => Or.inr (N y hy)).mono (by decide) (by decide)⟩⟩
theorem main_1_1 : Claimed_1_1 := comes_1 fun _ _ _ _ _ _ h hF => ⟨h.1, hF⟩
theorem main_1_2 : Claimed_1_2 := comes_1 fun _ _ _ _ _ _ h hF => ⟨h.2.1, hF⟩
end Jvm.Pilot.@@N@@
namespace Jvm.Pilot.@@N@@
open Jvm Jvm.ClassFile Sem Op Lib Jvm.Free Jvm.Stand Jvm.Pilot.@@N@@.Jvm.D
/-! MADE BY PROGRAM (witnessworld.py) out of the Statement's table words and the real class files: 10 classes; the members and pool entries that the words name. The judged class is class 1, her method 1. -/
namespace start1
open Jvm.ClassFile
def u (s : String) : CpInfo := .utf8 (stringToUtf16 s)
/-- a pool by its gaps: so many unusable entries, then the entry; so many at the end -/
def gap : Nat → List CpInfo → List CpInfo
  | 0, r => r
  | n + 1, r => .unusable :: gap n r
def poolList (es : List (Nat × CpInfo)) (last : Nat) : List CpInfo := es.foldr (fun e r => gap e.1 (e.2 :: r)) (gap last [])
def pool (es : List (Nat × CpInfo)) (last : Nat) : Array CpInfo := ⟨poolList es last⟩
def fileOf (pool : Array CpInfo) (this : Nat) (attrs : Array Attribute := #[]) (ms : Array MethodInfo := #[]) (fl : Nat := 33) (sup : Nat := 0) (ifs : Array Nat := #[]) (fds : Array FieldInfo := #[]) : ClassFile where
  minorVersion := 0
  majorVersion := 65
  constantPool := pool
  accessFlags := fl
  thisClass := this
  superClass := sup
  interfaces := ifs
  fields := fds
  methods := ms
  attributes := attrs
def plain (name : String) (sup : Option ClassId) : Class where
  name := name
  kind := .ordinary
  loader := none
  accessFlags := 33
  super := sup
  interfaces := #[]
  cf := none
  fields := #[]
  methods := #[]
  instanceTypes := #[]
  staticTypes := #[]
  resolved := #[]
  callSites := []
  init := .initialized
  statics := none
  mirror := none

def pool0 : Array CpInfo := pool [(5, u "<init>"), (0, u "()V"), (1, .class_ 10), (1, u "java/lang/Object")] 113

def k0m0 : Method := { name := "<init>", desc := "()V", sig := { parameters := [], returnType := none }, accessFlags := 1, code := none }
/-- java/lang/Object -/
def k0 : Class := { plain "java/lang/Object" none with
  accessFlags := 33
  interfaces := #[]
  cf := some (fileOf pool0 8 #[] #[{ accessFlags := 1, nameIndex := 5, descriptorIndex := 6, attributes := #[] }] 33 0 #[] #[])
  fields := #[]
  methods := #[k0m0]
  instanceTypes := #[]
  staticTypes := #[]
  resolved := Array.replicate 124 none
  statics := none }

def pool1 : Array CpInfo := pool [(2, .class_ 4), (1, u "java/lang/Object"), (0, u "<init>"), (0, u "()V"), (2, .long 9223372036854775807), (1, .long 9223372036854774784), (1, .methodref 14 15), (0, .class_ 16), (0, .nameAndType 17 18), (0, u "linearis/register/CountingView"), (0, u "recordBytes"), (0, u "(J)J"), (0, .long 1024), (1, .long 256), (1, .class_ 24), (0, u "linearis/register/CountingViewRecordBytesPinLaw"), (2, u "law"), (0, u "(J)Z")] 3

def k1m0 : Method := { name := "<init>", desc := "()V", sig := { parameters := [], returnType := none }, accessFlags := 1, code := none }
def k1c1 : Code := { maxStack := 4, maxLocals := 10, code := code, exceptionTable := #[], attributes := #[] }
def k1m1 : Method := { name := "law", desc := "(J)Z", sig := { parameters := [.long], returnType := some .boolean }, accessFlags := 9, code := some k1c1 }
/-- linearis/register/CountingViewRecordBytesPinLaw -/
def k1 : Class := { plain "linearis/register/CountingViewRecordBytesPinLaw" (some 0) with
  accessFlags := 49
  interfaces := #[]
  cf := some (fileOf pool1 23 #[] #[{ accessFlags := 1, nameIndex := 5, descriptorIndex := 6, attributes := #[] }, { accessFlags := 9, nameIndex := 27, descriptorIndex := 28, attributes := #[] }] 49 2 #[] #[])
  fields := #[]
  methods := #[k1m0, k1m1]
  instanceTypes := #[]
  staticTypes := #[]
  resolved := Array.replicate 32 none
  statics := none }

def pool2 : Array CpInfo := pool [(7, .class_ 8), (0, u "linearis/register/Registers"), (0, .class_ 10), (0, u "java/lang/Object")] 18

/-- linearis/register/Registers -/
def k2 : Class := { plain "linearis/register/Registers" (some 0) with
  accessFlags := 1537
  interfaces := #[]
  cf := some (fileOf pool2 7 #[] #[] 1537 9 #[] #[])
  fields := #[]
  methods := #[]
  instanceTypes := #[]
  staticTypes := #[]
  resolved := Array.replicate 29 none
  statics := none }

def pool3 : Array CpInfo := pool [(1, .class_ 2), (0, u "linearis/register/CountingView"), (3, .class_ 8), (1, u "linearis/register/Registers"), (4, u "<init>"), (2, .class_ 18), (1, u "java/lang/Object"), (0, u "()V"), (12, u "tallies"), (0, u "Ljava/lang/ThreadLocal;"), (5, u "maxSteps"), (0, u "Ljava/util/concurrent/ConcurrentHashMap;"), (5, u "kindsUsed"), (0, u "Ljava/util/concurrent/atomic/AtomicInteger;"), (5, u "clock"), (0, u "Ljava/util/concurrent/atomic/AtomicLong;"), (2, u "made"), (2, u "touchedPages"), (2, u "inner"), (0, u "Llinearis/register/Registers;"), (0, .class_ 66), (0, u "linearis/register/CountingView$CountedWord"), (11, .class_ 79), (0, u "linearis/register/CountingView$CountedRef"), (14, u "(J)J"), (23, .class_ 119), (0, u "linearis/register/CountingView$Tally"), (7, u "I"), (80, u "BITS"), (0, u "Ljava/lang/invoke/VarHandle;"), (31, .long 1024), (1, .long 256), (62, u "PAGE_WORDS"), (2, u "PAGE_NUMBERS"), (1, u "PAGE_BYTES"), (26, u "recordBytes"), (20, .class_ 360), (0, u "linearis/register/CountingView$Cell")] 75

def k3m0 : Method := { name := "<init>", desc := "()V", sig := { parameters := [], returnType := none }, accessFlags := 1, code := none }
def k3c1 : Code := { maxStack := 4, maxLocals := 2, code := prog_18_method_15_code, exceptionTable := #[], attributes := #[] }
def k3m1 : Method := { name := "recordBytes", desc := "(J)J", sig := { parameters := [.long], returnType := some .long }, accessFlags := 9, code := some k3c1 }
/-- linearis/register/CountingView -/
def k3 : Class := { plain "linearis/register/CountingView" (some 0) with
  accessFlags := 49
  interfaces := #[2]
  cf := some (fileOf pool3 1 #[.nestMembers #[78, 65, 359, 118]] #[{ accessFlags := 1, nameIndex := 13, descriptorIndex := 19, attributes := #[] }, { accessFlags := 9, nameIndex := 338, descriptorIndex := 94, attributes := #[] }] 49 16 #[6] #[{ accessFlags := 26, nameIndex := 208, descriptorIndex := 209, attributes := #[] }, { accessFlags := 26, nameIndex := 306, descriptorIndex := 127, attributes := #[] }, { accessFlags := 26, nameIndex := 309, descriptorIndex := 127, attributes := #[] }, { accessFlags := 26, nameIndex := 311, descriptorIndex := 127, attributes := #[] }, { accessFlags := 18, nameIndex := 63, descriptorIndex := 64, attributes := #[] }, { accessFlags := 18, nameIndex := 32, descriptorIndex := 33, attributes := #[] }, { accessFlags := 18, nameIndex := 39, descriptorIndex := 40, attributes := #[] }, { accessFlags := 18, nameIndex := 46, descriptorIndex := 47, attributes := #[] }, { accessFlags := 18, nameIndex := 53, descriptorIndex := 54, attributes := #[] }, { accessFlags := 18, nameIndex := 57, descriptorIndex := 54, attributes := #[] }, { accessFlags := 18, nameIndex := 60, descriptorIndex := 40, attributes := #[] }])
  fields := #[{ name := "BITS", type := (.object "java/lang/invoke/VarHandle"), accessFlags := 26, slot := 0, constantValue := 0 }, { name := "PAGE_WORDS", type := .int, accessFlags := 26, slot := 1, constantValue := 0 }, { name := "PAGE_NUMBERS", type := .int, accessFlags := 26, slot := 2, constantValue := 0 }, { name := "PAGE_BYTES", type := .int, accessFlags := 26, slot := 3, constantValue := 0 }, { name := "inner", type := (.object "linearis/register/Registers"), accessFlags := 18, slot := 0, constantValue := 0 }, { name := "tallies", type := (.object "java/lang/ThreadLocal"), accessFlags := 18, slot := 1, constantValue := 0 }, { name := "maxSteps", type := (.object "java/util/concurrent/ConcurrentHashMap"), accessFlags := 18, slot := 2, constantValue := 0 }, { name := "kindsUsed", type := (.object "java/util/concurrent/atomic/AtomicInteger"), accessFlags := 18, slot := 3, constantValue := 0 }, { name := "clock", type := (.object "java/util/concurrent/atomic/AtomicLong"), accessFlags := 18, slot := 4, constantValue := 0 }, { name := "made", type := (.object "java/util/concurrent/atomic/AtomicLong"), accessFlags := 18, slot := 5, constantValue := 0 }, { name := "touchedPages", type := (.object "java/util/concurrent/ConcurrentHashMap"), accessFlags := 18, slot := 6, constantValue := 0 }]
  methods := #[k3m0, k3m1]
  instanceTypes := #[(.object "linearis/register/Registers"), (.object "java/lang/ThreadLocal"), (.object "java/util/concurrent/ConcurrentHashMap"), (.object "java/util/concurrent/atomic/AtomicInteger"), (.object "java/util/concurrent/atomic/AtomicLong"), (.object "java/util/concurrent/atomic/AtomicLong"), (.object "java/util/concurrent/ConcurrentHashMap")]
  staticTypes := #[(.object "java/lang/invoke/VarHandle"), .int, .int, .int]
  resolved := Array.replicate 436 none
  statics := none }

def pool4 : Array CpInfo := pool [(1, u "java/lang/Cloneable"), (0, .class_ 1), (0, u "java/lang/Object"), (0, .class_ 3)] 3

/-- java/lang/Cloneable -/
def k4 : Class := { plain "java/lang/Cloneable" (some 0) with
  accessFlags := 1537
  interfaces := #[]
  cf := some (fileOf pool4 2 #[] #[] 1537 4 #[] #[])
  fields := #[]
  methods := #[]
  instanceTypes := #[]
  staticTypes := #[]
  resolved := Array.replicate 8 none
  statics := none }

def pool5 : Array CpInfo := pool [(1, u "java/io/Serializable"), (0, .class_ 1), (0, u "java/lang/Object"), (0, .class_ 3)] 3

/-- java/io/Serializable -/
def k5 : Class := { plain "java/io/Serializable" (some 0) with
  accessFlags := 1537
  interfaces := #[]
  cf := some (fileOf pool5 2 #[] #[] 1537 4 #[] #[])
  fields := #[]
  methods := #[]
  instanceTypes := #[]
  staticTypes := #[]
  resolved := Array.replicate 8 none
  statics := none }

/-- the primitive byte -/
def k6 : Class := { plain "byte" none with kind := .primitive 'B', accessFlags := 0x411 }
/-- [B -/
def k7 : Class := { plain "[B" (some 0) with kind := .array 6 .byte, interfaces := #[4, 5], accessFlags := 1041 }

/-- the primitive int -/
def k8 : Class := { plain "int" none with kind := .primitive 'I', accessFlags := 0x411 }
/-- [I -/
def k9 : Class := { plain "[I" (some 0) with kind := .array 8 .int, interfaces := #[4, 5], accessFlags := 1041 }

def heap : Heap := #[]
def classes : Array Class := #[k0, k1, k2, k3, k4, k5, k6, k7, k8, k9]
def interned : List (Array UInt16 × Addr) := []
def slotsUsed : Nat := 0
def theMethod : MethodId := ⟨1, 1⟩
def args0 : Array Value := #[.long 5000]
def aboutOver (below : List Frame) : State where
  vm := { classes := classes, interned := interned.toArray }
  heap := heap
  slotsUsed := slotsUsed
  threads := #[{ frames := .invoking theMethod args0 :: below }]
def below0 : List Frame := [.native { method := ⟨0, 0⟩, args := #[] }]
def about1 : State := aboutOver below0
def p0 : Program := .bare "" "" ""
def e0 : Env := launch0.env 0 0 0
theorem w_frames : about1.frames = Frame.invoking theMethod args0 :: below0 := rfl
set_option maxRecDepth 65536 in
theorem w_args : argsFit about1.vm theMethod args0 = true := by decide +kernel
set_option maxRecDepth 65536 in
theorem w_heap : heapFits about1 = true := by decide +kernel
set_option maxRecDepth 65536 in
theorem w_runnable : about1.curStatus? = some .runnable := by decide +kernel
set_option maxRecDepth 65536 in
theorem w_alone : about1.alone = true := by decide +kernel
set_option maxRecDepth 65536 in
theorem w_named : about1.methodNamed? x = some theMethod := by decide +kernel
set_option maxRecDepth 65536 in
theorem w_hears : about1.hears theMethod below0 = true := by decide +kernel
set_option maxRecDepth 65536 in
theorem w_ripe : about1.ripe theMethod args0 below0 = true := by decide +kernel
theorem w_running : about1.status = .running := rfl
set_option maxRecDepth 65536 in
theorem w_room : about1.hasRoom e0.platform room_1 = true :=
  launch0.hasRoom_least _ room_1 (by decide +kernel) (by decide +kernel) (by decide +kernel) (by decide +kernel) (by decide +kernel) (by decide +kernel)
theorem allAtoms_all (ts : List Jvm.Cond) (a : Array Jvm.Value) (st : Jvm.State) : (allAtoms ts).before a st = ts.all (fun c => c.before a st) := by
  induction ts with
  | nil => rfl
  | cons c t ih =>
    show (Jvm.Cond.and c (allAtoms t)).before a st = _
    rw [Jvm.Cond.before_and, ih, List.all_cons]
def words1 : List Jvm.Cond := Jvm.Cond.code x code maxLocals ret :: tables_1
/-- a 'code' word, met by the world's own term for the bytes: nothing is compared byte by byte -/
theorem code_word {y : MethodName} {bytes : ByteArray} {mx : Nat} {rt : Option FieldType} {a : Array Value} {s : State} {m : MethodId} {meth : Method} {c : Code} (h1 : s.methodNamed? y = some m) (h2 : s.vm.method? m = some meth) (h3 : meth.code = some c) (h4 : c.code = bytes)
    (h5 : (c.maxLocals == mx && c.exceptionTable.isEmpty && decide (c.maxStack ≤ mostOperands) && decide (meth.sig.returnType = rt) && !meth.locks && decide (parseMethodDescriptor y.desc = some meth.sig)) = true) : (Jvm.Cond.code y bytes mx rt).before a s = true := by
  simp only [Bool.and_eq_true, beq_iff_eq, Bool.not_eq_true', decide_eq_true_eq] at h5
  obtain ⟨⟨⟨⟨⟨g1, g2⟩, g3⟩, g4⟩, g5⟩, g6⟩ := h5
  simp [Cond.before, Cond.holds, Cond.value, h1, h2, h3, h4, g1, g2, g3, g4, g5, g6]
def isCode : Jvm.Cond → Bool
  | .code _ _ _ _ => true
  | _ => false
theorem all_split {L : List Jvm.Cond} {P : Jvm.Cond → Bool} (h1 : L.all (fun c => isCode c || P c) = true) (h2 : ∀ c ∈ L.filter isCode, P c = true) : L.all P = true := by
  refine List.all_eq_true.mpr fun c hc => ?_
  have h := List.all_eq_true.mp h1 c hc
  rcases Bool.eq_false_or_eq_true (isCode c) with hi | hi
  · exact h2 c (List.mem_filter.mpr ⟨hc, hi⟩)
  · simpa [hi] using h
set_option maxRecDepth 65536 in
theorem w_c0 : (Jvm.Cond.code x code maxLocals ret).before args0 about1 = true := code_word (m := ⟨1, 1⟩) (meth := k1m1) (c := k1c1) (by decide +kernel) rfl rfl rfl (by decide +kernel)
set_option maxRecDepth 65536 in
theorem w_c1 : (Jvm.Cond.code ({ cls := "linearis/register/CountingView", name := "recordBytes", desc := "(J)J" } : Jvm.MethodName) prog_18_method_15_code (2 : Nat) (Option.some Jvm.ClassFile.FieldType.long)).before args0 about1 = true := code_word (m := ⟨3, 1⟩) (meth := k3m1) (c := k3c1) (by decide +kernel) rfl rfl rfl (by decide +kernel)
def codes1 : List Jvm.Cond := [Jvm.Cond.code x code maxLocals ret, Jvm.Cond.code ({ cls := "linearis/register/CountingView", name := "recordBytes", desc := "(J)J" } : Jvm.MethodName) prog_18_method_15_code (2 : Nat) (Option.some Jvm.ClassFile.FieldType.long)]
set_option maxRecDepth 65536 in
theorem codes_eq : words1.filter isCode = codes1 := rfl
theorem w_codes : ∀ c ∈ words1.filter isCode, c.before args0 about1 = true := by
  rw [codes_eq]
  intro c hc
  simp only [codes1, List.mem_cons, List.not_mem_nil, or_false] at hc
  rcases hc with rfl | rfl
  · exact w_c0
  · exact w_c1
set_option maxRecDepth 65536 in
theorem w_t1 : words1.all (fun c => isCode c || c.before args0 about1) = true := by decide +kernel
theorem w_tables : (allAtoms (Jvm.Cond.code x code maxLocals ret :: tables_1)).before args0 about1 = true := by
  rw [allAtoms_all]
  show words1.all (fun c => c.before args0 about1) = true
  refine all_split ?_ w_codes
  rw [w_t1]
set_option maxRecDepth 65536 in
theorem w_case : (Jvm.Cond.and given_1 narrow_1).before args0 about1 = true := by decide +kernel
theorem w_applies : (headSpec (Jvm.Cond.code x code maxLocals ret :: tables_1) room_1).applies x e0.platform about1 = true :=
  (Spec.applies_iff w_frames).mpr ⟨w_running, w_runnable, w_alone, w_named, w_hears, w_ripe, w_room, w_tables⟩
theorem atStart : AtStart classFile x code maxLocals ret World_1 tables_1 room_1 Calls_1 rest_1 Pre_1 launch0 p0 e0 about1 theMethod args0 below0 :=
  ⟨lists_1, trivial, launch0.admits_env _ _ _, launch0.least_env, fairChoices_fair.cas, fairChoices_fair.clock, w_frames, w_args, w_heap, w_applies, trivial, trivial, w_case⟩
end start1
theorem witness_1 : WitnessClaimed_1 := ⟨start1.p0, start1.e0, start1.about1, start1.theMethod, start1.args0, start1.below0, start1.atStart⟩
end Jvm.Pilot.@@N@@
