import JvmDerived
import JvmDerived.Pilot.@@N@@Statement
import JvmDerived.Pilot.@@N@@Code
set_option linter.unusedVariables false
set_option linter.unusedSimpArgs false
namespace Jvm.Pilot.@@N@@
open Jvm Jvm.ClassFile Sem Op Lib Jvm.Free Jvm.Stand Jvm.LawKit Jvm.RoadKit Bundle Jvm.Pilot.@@N@@.Jvm.D
/-! own layer: the run from a state ends in a return of which Q holds; one step leads from there to there -/
def own_ishl (x y : Int32) : Int32 := x <<< (y &&& 31)
def own_ishr (x y : Int32) : Int32 := x >>> (y &&& 31)
def own_iushr (x y : Int32) : Int32 := (x.toUInt32 >>> (y &&& 31).toUInt32).toInt32
def own_lshl (x : Int64) (y : Int32) : Int64 := x <<< (y &&& 0x3f).toInt64
def own_lshr (x : Int64) (y : Int32) : Int64 := x >>> (y &&& 0x3f).toInt64
def own_lushr (x : Int64) (y : Int32) : Int64 := (x.toUInt64 >>> (y &&& 0x3f).toInt64.toUInt64).toInt64
def own_i2b (x : Int32) : Int32 := x.toInt8.toInt32
def own_i2c (x : Int32) : Int32 := x.toUInt32.toUInt16.toUInt32.toInt32
def own_Fin (tb : Tables) (e : Env) (below : List Frame) (s : State) (Q : Option Value → Heap → List Loc → Prop) (k n : Nat) (t : State) : Prop :=
  ∃ s₂ o, Steps tb e below t s₂ ∧ s₂.status = .running ∧ Ended s₂ below o ∧ ∃ v L, o = .returned v ∧ Q v s₂.heap L ∧ FrameEnd s o s₂ L k n
theorem own_go {tb : Tables} {e : Env} {below : List Frame} {s : State} {Q : Option Value → Heap → List Loc → Prop} {k n : Nat} {t t' : State}
    (h : ∀ target, Steps tb e below t' target → Steps tb e below t target) (q : own_Fin tb e below s Q k n t') : own_Fin tb e below s Q k n t := by
  obtain ⟨s2, o, h1, h2⟩ := q
  exact ⟨s2, o, h _ h1, h2⟩
def own_QP (r : Option Value) (h0 : Heap) (n0 : Nat) (v : Option Value) (h : Heap) (L : List Loc) : Prop := v = r ∧ Fr n0 L ∧ h = h0
section OwnA
variable {p : Program} {l : Launch} {e : Env} {R : Room} {s : State} {m : MethodId} {args : Array Value} {below : List Frame} {meth : Method} {c : Code} {T : State} {locs : List Loc} {cells slots : Nat}
theorem own_mono (X : Stand p l e R s m args below meth c T locs cells slots) {k n : Nat} (hk : cells ≤ k) (hn : slots ≤ n) : Stand p l e R s m args below meth c T locs k n :=
  { X with same := X.same.mono hk hn }
theorem own_ret (X : Stand p l e R s m args below meth c T locs cells slots) (hx : p.tables.exec = Jvm.exec) (hlk : meth.locks = false) {pc : Nat} {Ls : Array Slot} {w : Value} {t : FieldType} {i : Instr} {rest : List Value} (hret : meth.sig.returnType = some t) (hn : narrow t w = w)
    (hi : (i = .ireturn ∧ (t = .int ∨ t = .boolean ∨ t = .byte ∨ t = .char ∨ t = .short) ∧ ∃ z, w = .int z) ∨ (i = .lreturn ∧ t = .long ∧ ∃ z, w = .long z) ∨ (i = .dreturn ∧ t = .double ∧ ∃ z, w = .double z) ∨ (i = .freturn ∧ t = .float ∧ ∃ z, w = .float z) ∨ (i = .areturn ∧ t.isReference = true ∧ w.isRef = true))
    (hd : decode c.code pc = .ok (i, 1)) {Q : Option Value → Heap → List Loc → Prop} {k n : Nat} (hk : cells ≤ k) (hs : slots ≤ n) (hQ : Q (some w) T.heap locs) :
    own_Fin p.tables e below s Q k n (T.setTop (mkF m pc Ls (w :: rest))) := by
  obtain ⟨fs, hr, hrun, hended, hW, hsame⟩ := X.leave (v := some w) (fun h => by rw [hret] at h; cases h) hlk
  exact ⟨_, _, retOut X hx hret hn hi hd hr, hrun, hended, _, _, rfl, hQ, ⟨_, rfl⟩, hW, hsame.mono hk hs⟩
theorem own_retV (X : Stand p l e R s m args below meth c T locs cells slots) (hx : p.tables.exec = Jvm.exec) (hlk : meth.locks = false) {pc : Nat} {Ls : Array Slot} (hret : meth.sig.returnType = none)
    (hd : decode c.code pc = .ok (.return_, 1)) {Q : Option Value → Heap → List Loc → Prop} {k n : Nat} (hk : cells ≤ k) (hs : slots ≤ n) (hQ : Q none T.heap locs) :
    own_Fin p.tables e below s Q k n (T.setTop (mkF m pc Ls [])) := by
  obtain ⟨fs, hr, hrun, hended, hW, hsame⟩ := X.leave (v := none) (fun _ => rfl) hlk
  exact ⟨_, _, X.returnOut hx hret hd hr, hrun, hended, _, _, rfl, hQ, ⟨_, rfl⟩, hW, hsame.mono hk hs⟩
end OwnA
theorem own_irem {tb : Tables} [Ours tb] {e : Env} {below : List Frame} {T target : State} {m : MethodId} {c : Code} {g : JFrame} (h : At T m c below) (hx : tb.exec = Jvm.exec) (hg : g.method = m) {x y : Int32} {rest : List Value} (hd : decode c.code g.pc = .ok (.irem, 1)) (hs : g.stack = .int y :: .int x :: rest) (hy : y ≠ 0)
    (hr : Steps tb e below (T.setTop { g with pc := g.pc + 1, stack := .int (x % y) :: rest }) target) : Steps tb e below (T.setTop g) target :=
  XS.irem h hx hg hd hs hy (by rw [irem_eq_mod x y]; exact hr)
theorem own_lrem {tb : Tables} [Ours tb] {e : Env} {below : List Frame} {T target : State} {m : MethodId} {c : Code} {g : JFrame} (h : At T m c below) (hx : tb.exec = Jvm.exec) (hg : g.method = m) {x y : Int64} {rest : List Value} (hd : decode c.code g.pc = .ok (.lrem, 1)) (hs : g.stack = .long y :: .long x :: rest) (hy : y ≠ 0)
    (hr : Steps tb e below (T.setTop { g with pc := g.pc + 1, stack := .long (x % y) :: rest }) target) : Steps tb e below (T.setTop g) target :=
  XS.lrem h hx hg hd hs hy (by rw [lrem_mod x y]; exact hr)
/-! arrays by a function of the place -/
def own_set {α : Type} (f : Nat → α) (j : Int32) (v : α) : Nat → α := fun i => if i = j.toNatClampNeg then v else f i
def own_Arf (Z : State) (h : Heap) (a : Addr) (ty : FieldType) (n : Int32) (f : Nat → Value) : Prop :=
  ∃ c : Cell, Arr Z h a c ty ∧ c.slots.size = n.toNatClampNeg ∧ ¬ n < 0 ∧ ∀ i, i < n.toNatClampNeg → c.slots[i]? = some (f i)
section OwnB
variable {Z : State} {h h' : Heap} {a b : Addr} {ty : FieldType} {n j : Int32} {f : Nat → Value} {ws : List Addr} {v : Value} {sl : Nat}
theorem own_Arf.lt (F : own_Arf Z h a ty n f) : a < h.size := by obtain ⟨c, A, -⟩ := F; exact A.lt
theorem own_Arf.ext (F : own_Arf Z h a ty n f) (E : Ext h h') : own_Arf Z h' a ty n f := by obtain ⟨c, A, r⟩ := F; exact ⟨c, A.ext E, r⟩
theorem own_Arf.other (F : own_Arf Z h b ty n f) (W : Wr h h' a sl v) (q : b ≠ a) : own_Arf Z h' b ty n f := by obtain ⟨c, A, r⟩ := F; exact ⟨c, A.other W q, r⟩
theorem own_Arf.keep (F : own_Arf Z h a ty n f) (K : Keep h h' ws) (q : a ∉ ws) : own_Arf Z h' a ty n f := by obtain ⟨c, A, r⟩ := F; exact ⟨c, ⟨K.2.1 a c A.1 q, A.2⟩, r⟩
theorem own_Arf.new {k : ClassId} (A : Arr Z h a (newA k ty n) ty) (q : ¬ n < 0) : own_Arf Z h a ty n (fun _ => defaultValue ty) :=
  ⟨_, A, sz_new _ _ _, q, fun i hi => by simp [newA, hi]⟩
theorem own_Arf.wr (F : own_Arf Z h a ty n f) (W : Wr h h' a j.toNatClampNeg v) : own_Arf Z h' a ty n (fun i => if i = j.toNatClampNeg then v else f i) := by
  obtain ⟨c, A, S, q, H⟩ := F
  refine ⟨_, A.same W, by rw [sz_set]; exact S, q, fun i hi => ?_⟩
  by_cases u : i = j.toNatClampNeg
  · subst u; simp [Cell.setSlot, S, hi]
  · simp only [if_neg u, Cell.setSlot]; rw [Array.getElem?_setIfInBounds_ne (Ne.symm u)]; exact H i hi
theorem own_Arf.fn {g : Nat → Value} (F : own_Arf Z h a ty n f) (q : ∀ i, i < n.toNatClampNeg → f i = g i) : own_Arf Z h a ty n g := by
  obtain ⟨c, A, S, q', H⟩ := F
  exact ⟨c, A, S, q', fun i hi => by rw [← q i hi]; exact H i hi⟩
variable {p : Program} {l : Launch} {e : Env} {R : Room} {s : State} {m : MethodId} {args : Array Value} {below : List Frame} {meth : Method} {c : Code} {T : State} {locs : List Loc} {cells slots : Nat} {g : JFrame} {rest : List Value}
theorem own_alen (X : Stand p l e R s m args below meth c T locs cells slots) (hx : p.tables.exec = Jvm.exec) (hZ : Z.Warmed39 s.vm) (eT : T.heap = h) (F : own_Arf Z h a ty n f) (hg : g.method = m) (hs : g.stack = .ref a :: rest) (hd : decode c.code g.pc = .ok (.arraylength, 1)) (target : State)
    (hr : Steps p.tables e below (T.setTop { g with pc := g.pc + 1, stack := .int n :: rest }) target) : Steps p.tables e below (T.setTop g) target := by
  obtain ⟨cl, A, S, q, H⟩ := F
  refine X.arraylength hx (by rw [eT]; exact A.1) (State.isArrayOf_alike hZ.alike A.2.1) hg hs hd _ ?_
  rw [len_of S q]; exact hr
theorem own_iaload (X : Stand p l e R s m args below meth c T locs cells slots) (hx : p.tables.exec = Jvm.exec) (hZ : Z.Warmed39 s.vm) (eT : T.heap = h) (F : own_Arf Z h a .int n f) (hj : ¬ j < 0 ∧ j < n) {x : Int32} (hv : f j.toNatClampNeg = .int x) (hg : g.method = m) (hs : g.stack = .int j :: .ref a :: rest) (hd : decode c.code g.pc = .ok (.iaload, 1)) (target : State)
    (hr : Steps p.tables e below (T.setTop { g with pc := g.pc + 1, stack := .int x :: rest }) target) : Steps p.tables e below (T.setTop g) target := by
  obtain ⟨cl, A, S, q, H⟩ := F
  have hin := inb_of S hj
  exact X.iaload hx (by rw [eT]; exact A.1) (State.isArrayOf_alike hZ.alike A.2.1) A.2.2 hin (by rw [H _ (by rw [← S]; omega), hv]) hg hs hd _ hr
theorem own_baload (X : Stand p l e R s m args below meth c T locs cells slots) (hx : p.tables.exec = Jvm.exec) (hZ : Z.Warmed39 s.vm) (eT : T.heap = h) (F : own_Arf Z h a .byte n f) (hj : ¬ j < 0 ∧ j < n) {x : Int32} (hv : f j.toNatClampNeg = .int x) (hg : g.method = m) (hs : g.stack = .int j :: .ref a :: rest) (hd : decode c.code g.pc = .ok (.baload, 1)) (target : State)
    (hr : Steps p.tables e below (T.setTop { g with pc := g.pc + 1, stack := .int x :: rest }) target) : Steps p.tables e below (T.setTop g) target := by
  obtain ⟨cl, A, S, q, H⟩ := F
  have hin := inb_of S hj
  exact X.baloadBytes hx (by rw [eT]; exact A.1) (State.isArrayOf_alike hZ.alike A.2.1) A.2.2 hin (by rw [H _ (by rw [← S]; omega), hv]) hg hs hd _ hr
theorem own_laload (X : Stand p l e R s m args below meth c T locs cells slots) (hx : p.tables.exec = Jvm.exec) (hZ : Z.Warmed39 s.vm) (eT : T.heap = h) (F : own_Arf Z h a .long n f) (hj : ¬ j < 0 ∧ j < n) {x : Int64} (hv : f j.toNatClampNeg = .long x) (hg : g.method = m) (hs : g.stack = .int j :: .ref a :: rest) (hd : decode c.code g.pc = .ok (.laload, 1)) (target : State)
    (hr : Steps p.tables e below (T.setTop { g with pc := g.pc + 1, stack := .long x :: rest }) target) : Steps p.tables e below (T.setTop g) target := by
  obtain ⟨cl, A, S, q, H⟩ := F
  have hin := inb_of S hj
  exact X.laload hx (by rw [eT]; exact A.1) (State.isArrayOf_alike hZ.alike A.2.1) A.2.2 hin (by rw [H _ (by rw [← S]; omega), hv]) hg hs hd _ hr
theorem own_stI (X : Stand p l e R s m args below meth c T locs cells slots) (hx : p.tables.exec = Jvm.exec) (hZ : Z.Warmed39 s.vm) (eT : T.heap = h) {q : Nat → Int32} (F : own_Arf Z h a .int n (fun i => .int (q i))) (hj : ¬ j < 0 ∧ j < n) {x : Int32} (hg : g.method = m) (hs : g.stack = .int x :: .int j :: .ref a :: rest) (hd : decode c.code g.pc = .ok (.iastore, 1)) :
    ∃ T' h', Stand p l e R s m args below meth c T' (locs ++ [⟨a, j.toNatClampNeg⟩]) cells slots ∧ T'.heap = h' ∧ Wr h h' a j.toNatClampNeg (.int x) ∧ own_Arf Z h' a .int n (fun i => .int (own_set q j x i)) ∧ ∀ target, Steps p.tables e below (T'.setTop { g with pc := g.pc + 1, stack := rest }) target → Steps p.tables e below (T.setTop g) target := by
  obtain ⟨cl, A, S, q1, H⟩ := F
  obtain ⟨T', h', X', e', W, st⟩ := stI X hx hZ eT A (inb_of S hj) hg hs hd
  refine ⟨T', h', X', e', W, (own_Arf.wr ⟨cl, A, S, q1, H⟩ W).fn fun i hi => ?_, st⟩
  simp only [own_set]; split <;> rfl
theorem own_stB (X : Stand p l e R s m args below meth c T locs cells slots) (hx : p.tables.exec = Jvm.exec) (hZ : Z.Warmed39 s.vm) (eT : T.heap = h) {q : Nat → Int32} (F : own_Arf Z h a .byte n (fun i => .int (q i))) (hj : ¬ j < 0 ∧ j < n) {x : Int32} (hg : g.method = m) (hs : g.stack = .int x :: .int j :: .ref a :: rest) (hd : decode c.code g.pc = .ok (.bastore, 1)) :
    ∃ T' h', Stand p l e R s m args below meth c T' (locs ++ [⟨a, j.toNatClampNeg⟩]) cells slots ∧ T'.heap = h' ∧ Wr h h' a j.toNatClampNeg (.int (own_i2b x)) ∧ own_Arf Z h' a .byte n (fun i => .int (own_set q j (own_i2b x) i)) ∧ ∀ target, Steps p.tables e below (T'.setTop { g with pc := g.pc + 1, stack := rest }) target → Steps p.tables e below (T.setTop g) target := by
  obtain ⟨cl, A, S, q1, H⟩ := F
  obtain ⟨T', h', X', e', W, st⟩ := stB X hx hZ eT A (inb_of S hj) hg hs hd
  refine ⟨T', h', X', e', W, (own_Arf.wr ⟨cl, A, S, q1, H⟩ W).fn fun i hi => ?_, st⟩
  simp only [own_set]; split <;> rfl
theorem own_stJ (X : Stand p l e R s m args below meth c T locs cells slots) (hx : p.tables.exec = Jvm.exec) (hZ : Z.Warmed39 s.vm) (eT : T.heap = h) {q : Nat → Int64} (F : own_Arf Z h a .long n (fun i => .long (q i))) (hj : ¬ j < 0 ∧ j < n) {x : Int64} (hg : g.method = m) (hs : g.stack = .long x :: .int j :: .ref a :: rest) (hd : decode c.code g.pc = .ok (.lastore, 1)) :
    ∃ T' h', Stand p l e R s m args below meth c T' (locs ++ [⟨a, j.toNatClampNeg⟩]) cells slots ∧ T'.heap = h' ∧ Wr h h' a j.toNatClampNeg (.long x) ∧ own_Arf Z h' a .long n (fun i => .long (own_set q j x i)) ∧ ∀ target, Steps p.tables e below (T'.setTop { g with pc := g.pc + 1, stack := rest }) target → Steps p.tables e below (T.setTop g) target := by
  obtain ⟨cl, A, S, q1, H⟩ := F
  obtain ⟨T', h', X', e', W, st⟩ := stJ X hx hZ eT A (inb_of S hj) hg hs hd
  refine ⟨T', h', X', e', W, (own_Arf.wr ⟨cl, A, S, q1, H⟩ W).fn fun i hi => ?_, st⟩
  simp only [own_set]; split <;> rfl
end OwnB
def own_QL (r : Option Value) (n0 : Nat) (v : Option Value) (h : Heap) (L : List Loc) : Prop := v = r ∧ Fr n0 L ∧ True
theorem own_ne_arf {Z : State} {h : Heap} {a b : Addr} {C : String} {ty : FieldType} {n : Int32} {f : Nat → Value} {a0 : Array Value} {k : Nat} (F : Exa Z h a C) (wi : (Cond.instantiable C k).before a0 Z = true) (G : own_Arf Z h b ty n f) : a ≠ b := by
  obtain ⟨c, A, -⟩ := G; exact ne_arr F wi A
def own_Two (a b : Slot) : Prop := (a = .unset ∧ b = .unset) ∨ ∃ x : Int64, a = .val (.long x) ∧ b = .second
theorem d1_0 : decode method_2_code 0 = .ok (.iload_n 0, 1) := by decide +kernel
theorem d1_1 : decode method_2_code 1 = .ok (.bipush 31, 2) := by decide +kernel
theorem d1_3 : decode method_2_code 3 = .ok (.iand, 1) := by decide +kernel
theorem d1_4 : decode method_2_code 4 = .ok (.bipush 29, 2) := by decide +kernel
theorem d1_6 : decode method_2_code 6 = .ok (.irem, 1) := by decide +kernel
theorem d1_7 : decode method_2_code 7 = .ok (.istore_n 1, 1) := by decide +kernel
theorem d1_8 : decode method_2_code 8 = .ok (.iload_n 1, 1) := by decide +kernel
theorem d1_9 : decode method_2_code 9 = .ok (.ifCond .ne 8, 3) := by decide +kernel
theorem d1_12 : decode method_2_code 12 = .ok (.bipush 31, 2) := by decide +kernel
theorem d1_14 : decode method_2_code 14 = .ok (.goto 4, 3) := by decide +kernel
theorem d1_17 : decode method_2_code 17 = .ok (.iload_n 1, 1) := by decide +kernel
theorem d1_18 : decode method_2_code 18 = .ok (.ireturn, 1) := by decide +kernel
theorem pn_1 : plainName "com/example/plain_tariff/plaintariff/RelativeDayIsAfterPinLaw" = true := by first | (simp [plainName, overriddenIn]; done) | decide +kernel
theorem ef_1 (m : MethodId) (p0 : Int32) : entryFrame m #[(.int p0)] 2 = mkF m 0 #[.val (.int p0), .unset] [] := by first | (simp [entryFrame, mkF, argsToLocals, Value.category]; done) | rfl
def own_rm1_room : Room := { frames := 0, cells := 0, slots := 0, locals := 0 }
def own_f1 (p0 : Int32) : Int32 := let z1 := ((p0 &&& (31 : Int32)) % (29 : Int32)); (if z1 = (0 : Int32) then ((31 : Int32)) else (z1))
set_option maxRecDepth 65536 in
set_option maxHeartbeats 40000000 in
theorem rm1 (l : Launch) (Z : State) (a0 : Array Value) (hw : ∀ d ∈ tables_1, d.before a0 Z = true) (ws : List Jvm.Cond) (p0 : Int32) (h0 : Heap) (n0 : Nat) (Z0 : n0 ≤ h0.size) :
    MetFree l (⟨"com/example/plain_tariff/plaintariff/RelativeDayIsAfterPinLaw", "day", "(I)I"⟩ : MethodName) (head1 (Jvm.Cond.code (⟨"com/example/plain_tariff/plaintariff/RelativeDayIsAfterPinLaw", "day", "(I)I"⟩ : MethodName) method_2_code 2 (some .int) :: ws) own_rm1_room) (fun a U => a = #[(.int p0)] ∧ Z.Warmed39 U.vm ∧ U.heap = h0) (fun _ _ _ _ _ => True) (fun _ U o U' => ∃ v L, o = .returned v ∧ own_QP (some (.int (own_f1 p0))) h0 n0 v U'.heap L ∧ FrameEnd U o U' L own_rm1_room.cells own_rm1_room.slots) := by
  refine MetFree.of_bodySF (plainFor_of_name pn_1) hisR ?_
  intro p e s m args below meth c s₁ Bd hml0 hP hK
  obtain ⟨rfl, hZ, hh⟩ := hP
  have hx := Bd.exec
  have hby := Bd.bytes
  have hml : c.maxLocals = 2 := hml0
  have hown : s.vm.findClass "com/example/plain_tariff/plaintariff/RelativeDayIsAfterPinLaw" = some m.cls := findClass_of_methodNamed Bd.named
  have hnm := (name_of_methodNamed Bd.named Bd.method).1
  have hlk : meth.locks = false := BodyLoose.notSynchronized Bd
  have X0 : Stand p l e own_rm1_room s m #[(.int p0)] below meth c s₁ [] 0 0 := Stand.of_body Bd
  have e0 : s₁.heap = h0 := by rw [← hh, Bd.state]; rfl
  have N0 := Fr.nil n0
  show own_Fin p.tables e below s (own_QP (some (.int (own_f1 p0))) h0 n0) own_rm1_room.cells own_rm1_room.slots (s₁.setTop (entryFrame m #[(.int p0)] 2))
  rw [ef_1]
  show own_Fin _ _ _ _ _ _ _ (s₁.setTop (mkF m 0 #[.val (.int p0), .unset] []))
  refine own_go (fun _ k => XS.iloadN X0.here hx rfl (hb hby d1_0) rfl k) ?_
  show own_Fin _ _ _ _ _ _ _ (s₁.setTop (mkF m 1 #[.val (.int p0), .unset] [(.int p0)]))
  refine own_go (fun _ k => XS.bipush X0.here hx rfl (hb hby d1_1) k) ?_
  show own_Fin _ _ _ _ _ _ _ (s₁.setTop (mkF m 3 #[.val (.int p0), .unset] [(.int (31 : Int32)), (.int p0)]))
  refine own_go (fun _ k => XS.iand X0.here hx rfl (hb hby d1_3) rfl k) ?_
  show own_Fin _ _ _ _ _ _ _ (s₁.setTop (mkF m 4 #[.val (.int p0), .unset] [(.int (p0 &&& (31 : Int32)))]))
  refine own_go (fun _ k => XS.bipush X0.here hx rfl (hb hby d1_4) k) ?_
  show own_Fin _ _ _ _ _ _ _ (s₁.setTop (mkF m 6 #[.val (.int p0), .unset] [(.int (29 : Int32)), (.int (p0 &&& (31 : Int32)))]))
  refine own_go (fun _ k => own_irem X0.here hx rfl (hb hby d1_6) rfl (by decide) k) ?_
  show own_Fin _ _ _ _ _ _ _ (s₁.setTop (mkF m 7 #[.val (.int p0), .unset] [(.int ((p0 &&& (31 : Int32)) % (29 : Int32)))]))
  refine own_go (fun _ k => XS.istoreN X0.here hx rfl (hb hby d1_7) rfl (l' := #[.val (.int p0), .val (.int ((p0 &&& (31 : Int32)) % (29 : Int32)))]) rfl k) ?_
  show own_Fin _ _ _ _ _ _ _ (s₁.setTop (mkF m 8 #[.val (.int p0), .val (.int ((p0 &&& (31 : Int32)) % (29 : Int32)))] []))
  generalize hz1 : ((p0 &&& (31 : Int32)) % (29 : Int32)) = z1
  show own_Fin _ _ _ _ _ _ _ (s₁.setTop (mkF m 8 #[.val (.int p0), .val (.int z1)] []))
  refine own_go (fun _ k => XS.iloadN X0.here hx rfl (hb hby d1_8) rfl k) ?_
  show own_Fin _ _ _ _ _ _ _ (s₁.setTop (mkF m 9 #[.val (.int p0), .val (.int z1)] [(.int z1)]))
  by_cases hc2 : z1 = (0 : Int32)
  · refine own_go (fun _ k => XS.ifNo X0.here hx rfl (hb hby d1_9) rfl ((if0 _ _).trans (teq hc2).2) k) ?_
    show own_Fin _ _ _ _ _ _ _ (s₁.setTop (mkF m 12 #[.val (.int p0), .val (.int z1)] []))
    refine own_go (fun _ k => XS.bipush X0.here hx rfl (hb hby d1_12) k) ?_
    show own_Fin _ _ _ _ _ _ _ (s₁.setTop (mkF m 14 #[.val (.int p0), .val (.int z1)] [(.int (31 : Int32))]))
    refine own_go (fun _ k => XS.goto X0.here hx rfl (pc0 := 14) (pc' := 18) rfl (hb hby d1_14) (by decide) (by decide) k) ?_
    show own_Fin _ _ _ _ _ _ _ (s₁.setTop (mkF m 18 #[.val (.int p0), .val (.int z1)] [(.int (31 : Int32))]))
    refine own_ret X0 hx hlk Bd.returns rfl (Or.inl ⟨rfl, by simp, _, rfl⟩) (hb hby d1_18) (Nat.le_of_ble_eq_true rfl) (Nat.le_of_ble_eq_true rfl) ?_
    refine ⟨?_, N0, e0⟩
    try subst hz1
    first | rfl | (simp only [own_f1, if_pos hc2]; done) | (simp only [own_f1, if_pos hc2]; rfl)
  · refine own_go (fun _ k => XS.ifYes X0.here hx rfl (pc0 := 9) (pc' := 17) rfl (hb hby d1_9) rfl ((if0 _ _).trans (feq hc2).2) (by decide) (by decide) k) ?_
    show own_Fin _ _ _ _ _ _ _ (s₁.setTop (mkF m 17 #[.val (.int p0), .val (.int z1)] []))
    refine own_go (fun _ k => XS.iloadN X0.here hx rfl (hb hby d1_17) rfl k) ?_
    show own_Fin _ _ _ _ _ _ _ (s₁.setTop (mkF m 18 #[.val (.int p0), .val (.int z1)] [(.int z1)]))
    refine own_ret X0 hx hlk Bd.returns rfl (Or.inl ⟨rfl, by simp, _, rfl⟩) (hb hby d1_18) (Nat.le_of_ble_eq_true rfl) (Nat.le_of_ble_eq_true rfl) ?_
    refine ⟨?_, N0, e0⟩
    try subst hz1
    first | rfl | (simp only [own_f1, if_neg hc2]; done) | (simp only [own_f1, if_neg hc2]; rfl)
theorem d3_0 : decode jdk_30_method_1_code 0 = .ok (.aload_n 0, 1) := by decide +kernel
theorem d3_1 : decode jdk_30_method_1_code 1 = .ok (.invokespecial 1, 3) := by decide +kernel
theorem d3_4 : decode jdk_30_method_1_code 4 = .ok (.return_, 1) := by decide +kernel
theorem pn_3 : plainName "java/lang/Record" = true := by first | (simp [plainName, overriddenIn]; done) | decide +kernel
theorem ef_3 (m : MethodId) (r0 : Addr) : entryFrame m #[(.ref r0)] 1 = mkF m 0 #[.val (.ref r0)] [] := by first | (simp [entryFrame, mkF, argsToLocals, Value.category]; done) | rfl
def own_rm3_room : Room := { frames := 1, cells := 0, slots := 0, locals := 12 }
set_option maxRecDepth 65536 in
set_option maxHeartbeats 40000000 in
theorem rm3 (l : Launch) (Z : State) (a0 : Array Value) (hw : ∀ d ∈ tables_1, d.before a0 Z = true) (ws : List Jvm.Cond) (r0 : Addr) (h0 : Heap) (n0 : Nat) (Z0 : n0 ≤ h0.size) :
    MetFree l (⟨"java/lang/Record", "<init>", "()V"⟩ : MethodName) (head1 (Jvm.Cond.code (⟨"java/lang/Record", "<init>", "()V"⟩ : MethodName) jdk_30_method_1_code 1 none :: ws) own_rm3_room) (fun a U => a = #[(.ref r0)] ∧ Z.Warmed39 U.vm ∧ U.heap = h0) (fun _ _ _ _ _ => True) (fun _ U o U' => ∃ v L, o = .returned v ∧ own_QP (none) h0 n0 v U'.heap L ∧ FrameEnd U o U' L own_rm3_room.cells own_rm3_room.slots) := by
  refine MetFree.of_bodySF (plainFor_of_name pn_3) hisR ?_
  intro p e s m args below meth c s₁ Bd hml0 hP hK
  obtain ⟨rfl, hZ, hh⟩ := hP
  have hx := Bd.exec
  have hby := Bd.bytes
  have hml : c.maxLocals = 1 := hml0
  have hown : s.vm.findClass "java/lang/Record" = some m.cls := findClass_of_methodNamed Bd.named
  have hnm := (name_of_methodNamed Bd.named Bd.method).1
  have hlk : meth.locks = false := BodyLoose.notSynchronized Bd
  have X0 : Stand p l e own_rm3_room s m #[(.ref r0)] below meth c s₁ [] 0 0 := Stand.of_body Bd
  have e0 : s₁.heap = h0 := by rw [← hh, Bd.state]; rfl
  have N0 := Fr.nil n0
  show own_Fin p.tables e below s (own_QP (none) h0 n0) own_rm3_room.cells own_rm3_room.slots (s₁.setTop (entryFrame m #[(.ref r0)] 1))
  rw [ef_3]
  show own_Fin _ _ _ _ _ _ _ (s₁.setTop (mkF m 0 #[.val (.ref r0)] []))
  refine own_go (fun _ k => XS.aloadN X0.here hx rfl (hb hby d3_0) rfl rfl k) ?_
  show own_Fin _ _ _ _ _ _ _ (s₁.setTop (mkF m 1 #[.val (.ref r0)] [(.ref r0)]))
  obtain ⟨T1, X1, e1, st1⟩ := initO X0 hx hZ hown (hw _ (List.mem_of_getElem? (i := 15) rfl)) (hw _ (List.mem_of_getElem? (i := 16) rfl)) (hw _ (List.mem_of_getElem? (i := 17) rfl)) e0 (g := (mkF m 1 #[.val (.ref r0)] [(.ref r0)])) rfl (by rw [hml]; rfl) rfl (hb hby d3_1) (by decide) (W := 0) (by show 2 * 0 + _ ≤ _; exact Nat.le_of_eq rfl) (by decide)
  refine own_go (fun tg k => st1 tg k) ?_
  show own_Fin _ _ _ _ _ _ _ (T1.setTop (mkF m 4 #[.val (.ref r0)] []))
  refine own_retV X1 hx hlk Bd.returns (hb hby d3_4) (Nat.le_of_ble_eq_true rfl) (Nat.le_of_ble_eq_true rfl) ?_
  refine ⟨?_, N0, e1⟩
  first | rfl | (simp only [own_f3]; done) | (simp only [own_f3]; rfl)
theorem own_pd17 : parseMethodDescriptor "()V" = some ⟨[], none⟩ := by decide +kernel
theorem d2_0 : decode prog_44_method_1_code 0 = .ok (.aload_n 0, 1) := by decide +kernel
theorem d2_1 : decode prog_44_method_1_code 1 = .ok (.invokespecial 1, 3) := by decide +kernel
theorem d2_4 : decode prog_44_method_1_code 4 = .ok (.iload_n 2, 1) := by decide +kernel
theorem d2_5 : decode prog_44_method_1_code 5 = .ok (.iconst 1, 1) := by decide +kernel
theorem d2_6 : decode prog_44_method_1_code 6 = .ok (.if_icmp .lt 9, 3) := by decide +kernel
theorem d2_9 : decode prog_44_method_1_code 9 = .ok (.iload_n 2, 1) := by decide +kernel
theorem d2_10 : decode prog_44_method_1_code 10 = .ok (.bipush 28, 2) := by decide +kernel
theorem d2_12 : decode prog_44_method_1_code 12 = .ok (.if_icmp .le 23, 3) := by decide +kernel
theorem d2_15 : decode prog_44_method_1_code 15 = .ok (.iload_n 2, 1) := by decide +kernel
theorem d2_16 : decode prog_44_method_1_code 16 = .ok (.bipush 31, 2) := by decide +kernel
theorem d2_18 : decode prog_44_method_1_code 18 = .ok (.if_icmp .eq 17, 3) := by decide +kernel
theorem d2_21 : decode prog_44_method_1_code 21 = .ok (.new 9, 3) := by decide +kernel
theorem d2_35 : decode prog_44_method_1_code 35 = .ok (.aload_n 0, 1) := by decide +kernel
theorem d2_36 : decode prog_44_method_1_code 36 = .ok (.iload_n 1, 1) := by decide +kernel
theorem d2_37 : decode prog_44_method_1_code 37 = .ok (.putfield 18, 3) := by decide +kernel
theorem d2_40 : decode prog_44_method_1_code 40 = .ok (.aload_n 0, 1) := by decide +kernel
theorem d2_41 : decode prog_44_method_1_code 41 = .ok (.iload_n 2, 1) := by decide +kernel
theorem d2_42 : decode prog_44_method_1_code 42 = .ok (.putfield 22, 3) := by decide +kernel
theorem d2_45 : decode prog_44_method_1_code 45 = .ok (.return_, 1) := by decide +kernel
theorem pn_2 : plainName "com/example/plain_tariff/plaintariff/RelativeDay" = true := by first | (simp [plainName, overriddenIn]; done) | decide +kernel
theorem ef_2 (m : MethodId) (r0 : Addr) (p1 : Int32) (p2 : Int32) : entryFrame m #[(.ref r0), (.int p1), (.int p2)] 3 = mkF m 0 #[.val (.ref r0), .val (.int p1), .val (.int p2)] [] := by first | (simp [entryFrame, mkF, argsToLocals, Value.category]; done) | rfl
def rm2_room : Room := { frames := 2, cells := 0, slots := 0, locals := 24 }
def Qrm2 (Z : State) (r0 : Addr) (p1 : Int32) (p2 : Int32) (h0 : Heap) (n0 : Nat) (v : Option Value) (h : Heap) (L : List Loc) : Prop := v = none ∧ Fr n0 L ∧ Keep h0 h [r0] ∧ Exa Z h r0 "com/example/plain_tariff/plaintariff/RelativeDay" ∧ Fld Z h r0 "com/example/plain_tariff/plaintariff/RelativeDay" "monthOffset" "I" (.int p1) ∧ Fld Z h r0 "com/example/plain_tariff/plaintariff/RelativeDay" "day" "I" (.int p2)
set_option maxRecDepth 65536 in
set_option maxHeartbeats 40000000 in
theorem rm2 (l : Launch) (Z : State) (a0 : Array Value) (hw : ∀ d ∈ tables_1, d.before a0 Z = true) (ws : List Jvm.Cond) (r0 : Addr) (p1 : Int32) (p2 : Int32) (h0 : Heap) (n0 : Nat) (Z0 : n0 ≤ h0.size) (E_r0_0 : Exa Z h0 r0 "com/example/plain_tariff/plaintariff/RelativeDay") (F_monthOffset_r0_0 : Fld Z h0 r0 "com/example/plain_tariff/plaintariff/RelativeDay" "monthOffset" "I" (.int (0 : Int32))) (F_day_r0_0 : Fld Z h0 r0 "com/example/plain_tariff/plaintariff/RelativeDay" "day" "I" (.int (0 : Int32))) (ge_r0 : n0 ≤ r0) (hv : (¬ p2 < (1 : Int32) ∧ ¬ (28 : Int32) < p2) ∨ p2 = (31 : Int32)) :
    MetFree l (⟨"com/example/plain_tariff/plaintariff/RelativeDay", "<init>", "(II)V"⟩ : MethodName) (head1 (Jvm.Cond.code (⟨"com/example/plain_tariff/plaintariff/RelativeDay", "<init>", "(II)V"⟩ : MethodName) prog_44_method_1_code 3 none :: ws) rm2_room) (fun a U => a = #[(.ref r0), (.int p1), (.int p2)] ∧ Z.Warmed39 U.vm ∧ U.heap = h0) (fun _ _ _ _ _ => True) (fun _ U o U' => ∃ v L, o = .returned v ∧ Qrm2 Z r0 p1 p2 h0 n0 v U'.heap L ∧ FrameEnd U o U' L rm2_room.cells rm2_room.slots) := by
  refine MetFree.of_bodySF (plainFor_of_name pn_2) hisR ?_
  intro p e s m args below meth c s₁ Bd hml0 hP hK
  obtain ⟨rfl, hZ, hh⟩ := hP
  have hx := Bd.exec
  have hby := Bd.bytes
  have hml : c.maxLocals = 3 := hml0
  have hown : s.vm.findClass "com/example/plain_tariff/plaintariff/RelativeDay" = some m.cls := findClass_of_methodNamed Bd.named
  have hnm := (name_of_methodNamed Bd.named Bd.method).1
  have hlk : meth.locks = false := BodyLoose.notSynchronized Bd
  have X0 : Stand p l e rm2_room s m #[(.ref r0), (.int p1), (.int p2)] below meth c s₁ [] 0 0 := Stand.of_body Bd
  have e0 : s₁.heap = h0 := by rw [← hh, Bd.state]; rfl
  have N0 := Fr.nil n0
  show own_Fin p.tables e below s (Qrm2 Z r0 p1 p2 h0 n0) rm2_room.cells rm2_room.slots (s₁.setTop (entryFrame m #[(.ref r0), (.int p1), (.int p2)] 3))
  rw [ef_2]
  show own_Fin _ _ _ _ _ _ _ (s₁.setTop (mkF m 0 #[.val (.ref r0), .val (.int p1), .val (.int p2)] []))
  have K0 := Keep.refl h0 [r0]
  refine own_go (fun _ k => XS.aloadN X0.here hx rfl (hb hby d2_0) rfl rfl k) ?_
  show own_Fin _ _ _ _ _ _ _ (s₁.setTop (mkF m 1 #[.val (.ref r0), .val (.int p1), .val (.int p2)] [(.ref r0)]))
  obtain ⟨_, _, ⟨T1, L1, k1, n1⟩, -, X1, ⟨Lc1, hQ1, l1, y1, z1⟩, st1⟩ := X0.specialBack hx (y := (⟨"java/lang/Record", "<init>", "()V"⟩ : MethodName)) rfl hown (mvT hZ (hw _ (List.mem_of_getElem? (i := 10) rfl))) (mvT hZ (hw _ (List.mem_of_getElem? (i := 11) rfl))) (mvT hZ (hw _ (List.mem_of_getElem? (i := 14) rfl))) (by decide) (backOf (W := 0) (rm3 l Z a0 hw [] r0 h0 n0 Z0) hZ (hw _ (List.mem_of_getElem? (i := 14) rfl)) (hw _ (List.mem_of_getElem? (i := 13) rfl)) (by decide) (by decide)) (g := (mkF m 1 #[.val (.ref r0), .val (.int p1), .val (.int p2)] [(.ref r0)])) rfl (by rw [hml]; rfl) (Steps.refl _) (a := r0) (argsL := []) (rest := []) (lenOf own_pd17 rfl) rfl (by show 2 * 0 + _ ≤ _; exact Nat.le_of_eq rfl) (hb hby d2_1) (fun _ _ => ⟨rfl, e0, (by decide : 0 + 0 ≤ _), (by decide : 0 + 0 ≤ _)⟩)
  dsimp only [Pt.U, Pt.locs, Pt.cells, Pt.slots] at X1 l1 y1 z1 st1 hQ1
  subst l1 y1 z1
  obtain ⟨rfl, N1q, e1⟩ := hQ1
  have N1 := Fr.app N0 N1q
  refine own_go (fun tg k => st1.trans k) ?_
  show own_Fin _ _ _ _ _ _ _ (T1.setTop (mkF m 4 #[.val (.ref r0), .val (.int p1), .val (.int p2)] []))
  refine own_go (fun _ k => XS.iloadN X1.here hx rfl (hb hby d2_4) rfl k) ?_
  show own_Fin _ _ _ _ _ _ _ (T1.setTop (mkF m 5 #[.val (.ref r0), .val (.int p1), .val (.int p2)] [(.int p2)]))
  refine own_go (fun _ k => XS.iconst X1.here hx rfl (hb hby d2_5) k) ?_
  show own_Fin _ _ _ _ _ _ _ (T1.setTop (mkF m 6 #[.val (.ref r0), .val (.int p1), .val (.int p2)] [(.int (1 : Int32)), (.int p2)]))
  by_cases hc2 : p2 < (1 : Int32)
  · refine own_go (fun _ k => XS.icmpYes X1.here hx rfl (pc0 := 6) (pc' := 15) rfl (hb hby d2_6) rfl (tlt hc2).1 (by decide) (by decide) k) ?_
    show own_Fin _ _ _ _ _ _ _ (T1.setTop (mkF m 15 #[.val (.ref r0), .val (.int p1), .val (.int p2)] []))
    refine own_go (fun _ k => XS.iloadN X1.here hx rfl (hb hby d2_15) rfl k) ?_
    show own_Fin _ _ _ _ _ _ _ (T1.setTop (mkF m 16 #[.val (.ref r0), .val (.int p1), .val (.int p2)] [(.int p2)]))
    refine own_go (fun _ k => XS.bipush X1.here hx rfl (hb hby d2_16) k) ?_
    show own_Fin _ _ _ _ _ _ _ (T1.setTop (mkF m 18 #[.val (.ref r0), .val (.int p1), .val (.int p2)] [(.int (31 : Int32)), (.int p2)]))
    by_cases hc3 : p2 = (31 : Int32)
    · refine own_go (fun _ k => XS.icmpYes X1.here hx rfl (pc0 := 18) (pc' := 35) rfl (hb hby d2_18) rfl (teq hc3).1 (by decide) (by decide) k) ?_
      show own_Fin _ _ _ _ _ _ _ (T1.setTop (mkF m 35 #[.val (.ref r0), .val (.int p1), .val (.int p2)] []))
      refine own_go (fun _ k => XS.aloadN X1.here hx rfl (hb hby d2_35) rfl rfl k) ?_
      show own_Fin _ _ _ _ _ _ _ (T1.setTop (mkF m 36 #[.val (.ref r0), .val (.int p1), .val (.int p2)] [(.ref r0)]))
      refine own_go (fun _ k => XS.iloadN X1.here hx rfl (hb hby d2_36) rfl k) ?_
      show own_Fin _ _ _ _ _ _ _ (T1.setTop (mkF m 37 #[.val (.ref r0), .val (.int p1), .val (.int p2)] [(.int p1), (.ref r0)]))
      obtain ⟨T4, h4, X4, e4, W4, st4⟩ := putF X1 hx hZ hown (host := "") (Or.inl (hw _ (List.mem_of_getElem? (i := 18) rfl))) Via.refl e1 F_monthOffset_r0_0 E_r0_0 (Or.inr ⟨(hw _ (List.mem_of_getElem? (i := 19) rfl)), rfl, hnm⟩) (hw _ (List.mem_of_getElem? (i := 5) rfl)) (ty := .int) (by decide) rfl rfl (g := (mkF m 37 #[.val (.ref r0), .val (.int p1), .val (.int p2)] [(.int p1), (.ref r0)])) rfl rfl (hb hby d2_37)
      have E_r0_4 := E_r0_0.wr W4
      have F_day_r0_4 := F_day_r0_0.other W4 (Or.inr (slot_ne (Or.inr (hw _ (List.mem_of_getElem? (i := 21) rfl))) (Or.inr (hw _ (List.mem_of_getElem? (i := 19) rfl))) (by decide) (t := .int) (t' := .int) (by decide) (by decide)))
      have K4 := K0.wr W4 (Or.inl (List.mem_of_getElem? (i := 0) rfl))
      have N4 := Fr.snoc X4 N1 ge_r0
      have Z4 : n0 ≤ h4.size := Nat.le_trans Z0 (Keep.of_wr W4).1
      have F_monthOffset_r0_4 := F_monthOffset_r0_0.same W4
      refine own_go (fun tg k => st4 tg k) ?_
      show own_Fin _ _ _ _ _ _ _ (T4.setTop (mkF m 40 #[.val (.ref r0), .val (.int p1), .val (.int p2)] []))
      refine own_go (fun _ k => XS.aloadN X4.here hx rfl (hb hby d2_40) rfl rfl k) ?_
      show own_Fin _ _ _ _ _ _ _ (T4.setTop (mkF m 41 #[.val (.ref r0), .val (.int p1), .val (.int p2)] [(.ref r0)]))
      refine own_go (fun _ k => XS.iloadN X4.here hx rfl (hb hby d2_41) rfl k) ?_
      show own_Fin _ _ _ _ _ _ _ (T4.setTop (mkF m 42 #[.val (.ref r0), .val (.int p1), .val (.int p2)] [(.int p2), (.ref r0)]))
      obtain ⟨T5, h5, X5, e5, W5, st5⟩ := putF X4 hx hZ hown (host := "") (Or.inl (hw _ (List.mem_of_getElem? (i := 20) rfl))) Via.refl e4 F_day_r0_4 E_r0_4 (Or.inr ⟨(hw _ (List.mem_of_getElem? (i := 21) rfl)), rfl, hnm⟩) (hw _ (List.mem_of_getElem? (i := 5) rfl)) (ty := .int) (by decide) rfl rfl (g := (mkF m 42 #[.val (.ref r0), .val (.int p1), .val (.int p2)] [(.int p2), (.ref r0)])) rfl rfl (hb hby d2_42)
      have E_r0_5 := E_r0_4.wr W5
      have F_monthOffset_r0_5 := F_monthOffset_r0_4.other W5 (Or.inr (slot_ne (Or.inr (hw _ (List.mem_of_getElem? (i := 19) rfl))) (Or.inr (hw _ (List.mem_of_getElem? (i := 21) rfl))) (by decide) (t := .int) (t' := .int) (by decide) (by decide)))
      have K5 := K4.wr W5 (Or.inl (List.mem_of_getElem? (i := 0) rfl))
      have N5 := Fr.snoc X5 N4 ge_r0
      have Z5 : n0 ≤ h5.size := Nat.le_trans Z4 (Keep.of_wr W5).1
      have F_day_r0_5 := F_day_r0_4.same W5
      refine own_go (fun tg k => st5 tg k) ?_
      show own_Fin _ _ _ _ _ _ _ (T5.setTop (mkF m 45 #[.val (.ref r0), .val (.int p1), .val (.int p2)] []))
      refine own_retV X5 hx hlk Bd.returns (hb hby d2_45) (Nat.le_of_ble_eq_true rfl) (Nat.le_of_ble_eq_true rfl) ?_
      rw [e5]
      refine ⟨rfl, N5, K5, E_r0_5, ?_, ?_⟩
      · first | (exact F_monthOffset_r0_5) | (simp only [if_pos hc2, if_pos hc3]; exact F_monthOffset_r0_5)
      · first | (exact F_day_r0_5) | (simp only [if_pos hc2, if_pos hc3]; exact F_day_r0_5)
    · refine own_go (fun _ k => XS.icmpNo X1.here hx rfl (hb hby d2_18) rfl (feq hc3).1 k) ?_
      show own_Fin _ _ _ _ _ _ _ (T1.setTop (mkF m 21 #[.val (.ref r0), .val (.int p1), .val (.int p2)] []))
      exfalso
      rcases hv with ⟨h1, h2⟩ | h1 <;> contradiction
  · refine own_go (fun _ k => XS.icmpNo X1.here hx rfl (hb hby d2_6) rfl (flt hc2).1 k) ?_
    show own_Fin _ _ _ _ _ _ _ (T1.setTop (mkF m 9 #[.val (.ref r0), .val (.int p1), .val (.int p2)] []))
    refine own_go (fun _ k => XS.iloadN X1.here hx rfl (hb hby d2_9) rfl k) ?_
    show own_Fin _ _ _ _ _ _ _ (T1.setTop (mkF m 10 #[.val (.ref r0), .val (.int p1), .val (.int p2)] [(.int p2)]))
    refine own_go (fun _ k => XS.bipush X1.here hx rfl (hb hby d2_10) k) ?_
    show own_Fin _ _ _ _ _ _ _ (T1.setTop (mkF m 12 #[.val (.ref r0), .val (.int p1), .val (.int p2)] [(.int (28 : Int32)), (.int p2)]))
    by_cases hc6 : (28 : Int32) < p2
    · refine own_go (fun _ k => XS.icmpNo X1.here hx rfl (hb hby d2_12) rfl (tlt hc6).2.2.2 k) ?_
      show own_Fin _ _ _ _ _ _ _ (T1.setTop (mkF m 15 #[.val (.ref r0), .val (.int p1), .val (.int p2)] []))
      refine own_go (fun _ k => XS.iloadN X1.here hx rfl (hb hby d2_15) rfl k) ?_
      show own_Fin _ _ _ _ _ _ _ (T1.setTop (mkF m 16 #[.val (.ref r0), .val (.int p1), .val (.int p2)] [(.int p2)]))
      refine own_go (fun _ k => XS.bipush X1.here hx rfl (hb hby d2_16) k) ?_
      show own_Fin _ _ _ _ _ _ _ (T1.setTop (mkF m 18 #[.val (.ref r0), .val (.int p1), .val (.int p2)] [(.int (31 : Int32)), (.int p2)]))
      by_cases hc7 : p2 = (31 : Int32)
      · refine own_go (fun _ k => XS.icmpYes X1.here hx rfl (pc0 := 18) (pc' := 35) rfl (hb hby d2_18) rfl (teq hc7).1 (by decide) (by decide) k) ?_
        show own_Fin _ _ _ _ _ _ _ (T1.setTop (mkF m 35 #[.val (.ref r0), .val (.int p1), .val (.int p2)] []))
        refine own_go (fun _ k => XS.aloadN X1.here hx rfl (hb hby d2_35) rfl rfl k) ?_
        show own_Fin _ _ _ _ _ _ _ (T1.setTop (mkF m 36 #[.val (.ref r0), .val (.int p1), .val (.int p2)] [(.ref r0)]))
        refine own_go (fun _ k => XS.iloadN X1.here hx rfl (hb hby d2_36) rfl k) ?_
        show own_Fin _ _ _ _ _ _ _ (T1.setTop (mkF m 37 #[.val (.ref r0), .val (.int p1), .val (.int p2)] [(.int p1), (.ref r0)]))
        obtain ⟨T8, h8, X8, e8, W8, st8⟩ := putF X1 hx hZ hown (host := "") (Or.inl (hw _ (List.mem_of_getElem? (i := 18) rfl))) Via.refl e1 F_monthOffset_r0_0 E_r0_0 (Or.inr ⟨(hw _ (List.mem_of_getElem? (i := 19) rfl)), rfl, hnm⟩) (hw _ (List.mem_of_getElem? (i := 5) rfl)) (ty := .int) (by decide) rfl rfl (g := (mkF m 37 #[.val (.ref r0), .val (.int p1), .val (.int p2)] [(.int p1), (.ref r0)])) rfl rfl (hb hby d2_37)
        have E_r0_8 := E_r0_0.wr W8
        have F_day_r0_8 := F_day_r0_0.other W8 (Or.inr (slot_ne (Or.inr (hw _ (List.mem_of_getElem? (i := 21) rfl))) (Or.inr (hw _ (List.mem_of_getElem? (i := 19) rfl))) (by decide) (t := .int) (t' := .int) (by decide) (by decide)))
        have K8 := K0.wr W8 (Or.inl (List.mem_of_getElem? (i := 0) rfl))
        have N8 := Fr.snoc X8 N1 ge_r0
        have Z8 : n0 ≤ h8.size := Nat.le_trans Z0 (Keep.of_wr W8).1
        have F_monthOffset_r0_8 := F_monthOffset_r0_0.same W8
        refine own_go (fun tg k => st8 tg k) ?_
        show own_Fin _ _ _ _ _ _ _ (T8.setTop (mkF m 40 #[.val (.ref r0), .val (.int p1), .val (.int p2)] []))
        refine own_go (fun _ k => XS.aloadN X8.here hx rfl (hb hby d2_40) rfl rfl k) ?_
        show own_Fin _ _ _ _ _ _ _ (T8.setTop (mkF m 41 #[.val (.ref r0), .val (.int p1), .val (.int p2)] [(.ref r0)]))
        refine own_go (fun _ k => XS.iloadN X8.here hx rfl (hb hby d2_41) rfl k) ?_
        show own_Fin _ _ _ _ _ _ _ (T8.setTop (mkF m 42 #[.val (.ref r0), .val (.int p1), .val (.int p2)] [(.int p2), (.ref r0)]))
        obtain ⟨T9, h9, X9, e9, W9, st9⟩ := putF X8 hx hZ hown (host := "") (Or.inl (hw _ (List.mem_of_getElem? (i := 20) rfl))) Via.refl e8 F_day_r0_8 E_r0_8 (Or.inr ⟨(hw _ (List.mem_of_getElem? (i := 21) rfl)), rfl, hnm⟩) (hw _ (List.mem_of_getElem? (i := 5) rfl)) (ty := .int) (by decide) rfl rfl (g := (mkF m 42 #[.val (.ref r0), .val (.int p1), .val (.int p2)] [(.int p2), (.ref r0)])) rfl rfl (hb hby d2_42)
        have E_r0_9 := E_r0_8.wr W9
        have F_monthOffset_r0_9 := F_monthOffset_r0_8.other W9 (Or.inr (slot_ne (Or.inr (hw _ (List.mem_of_getElem? (i := 19) rfl))) (Or.inr (hw _ (List.mem_of_getElem? (i := 21) rfl))) (by decide) (t := .int) (t' := .int) (by decide) (by decide)))
        have K9 := K8.wr W9 (Or.inl (List.mem_of_getElem? (i := 0) rfl))
        have N9 := Fr.snoc X9 N8 ge_r0
        have Z9 : n0 ≤ h9.size := Nat.le_trans Z8 (Keep.of_wr W9).1
        have F_day_r0_9 := F_day_r0_8.same W9
        refine own_go (fun tg k => st9 tg k) ?_
        show own_Fin _ _ _ _ _ _ _ (T9.setTop (mkF m 45 #[.val (.ref r0), .val (.int p1), .val (.int p2)] []))
        refine own_retV X9 hx hlk Bd.returns (hb hby d2_45) (Nat.le_of_ble_eq_true rfl) (Nat.le_of_ble_eq_true rfl) ?_
        rw [e9]
        refine ⟨rfl, N9, K9, E_r0_9, ?_, ?_⟩
        · first | (exact F_monthOffset_r0_9) | (simp only [if_neg hc2, if_pos hc6, if_pos hc7]; exact F_monthOffset_r0_9)
        · first | (exact F_day_r0_9) | (simp only [if_neg hc2, if_pos hc6, if_pos hc7]; exact F_day_r0_9)
      · refine own_go (fun _ k => XS.icmpNo X1.here hx rfl (hb hby d2_18) rfl (feq hc7).1 k) ?_
        show own_Fin _ _ _ _ _ _ _ (T1.setTop (mkF m 21 #[.val (.ref r0), .val (.int p1), .val (.int p2)] []))
        exfalso
        rcases hv with ⟨h1, h2⟩ | h1 <;> contradiction
    · refine own_go (fun _ k => XS.icmpYes X1.here hx rfl (pc0 := 12) (pc' := 35) rfl (hb hby d2_12) rfl (flt hc6).2.2.2 (by decide) (by decide) k) ?_
      show own_Fin _ _ _ _ _ _ _ (T1.setTop (mkF m 35 #[.val (.ref r0), .val (.int p1), .val (.int p2)] []))
      refine own_go (fun _ k => XS.aloadN X1.here hx rfl (hb hby d2_35) rfl rfl k) ?_
      show own_Fin _ _ _ _ _ _ _ (T1.setTop (mkF m 36 #[.val (.ref r0), .val (.int p1), .val (.int p2)] [(.ref r0)]))
      refine own_go (fun _ k => XS.iloadN X1.here hx rfl (hb hby d2_36) rfl k) ?_
      show own_Fin _ _ _ _ _ _ _ (T1.setTop (mkF m 37 #[.val (.ref r0), .val (.int p1), .val (.int p2)] [(.int p1), (.ref r0)]))
      obtain ⟨T10, h10, X10, e10, W10, st10⟩ := putF X1 hx hZ hown (host := "") (Or.inl (hw _ (List.mem_of_getElem? (i := 18) rfl))) Via.refl e1 F_monthOffset_r0_0 E_r0_0 (Or.inr ⟨(hw _ (List.mem_of_getElem? (i := 19) rfl)), rfl, hnm⟩) (hw _ (List.mem_of_getElem? (i := 5) rfl)) (ty := .int) (by decide) rfl rfl (g := (mkF m 37 #[.val (.ref r0), .val (.int p1), .val (.int p2)] [(.int p1), (.ref r0)])) rfl rfl (hb hby d2_37)
      have E_r0_10 := E_r0_0.wr W10
      have F_day_r0_10 := F_day_r0_0.other W10 (Or.inr (slot_ne (Or.inr (hw _ (List.mem_of_getElem? (i := 21) rfl))) (Or.inr (hw _ (List.mem_of_getElem? (i := 19) rfl))) (by decide) (t := .int) (t' := .int) (by decide) (by decide)))
      have K10 := K0.wr W10 (Or.inl (List.mem_of_getElem? (i := 0) rfl))
      have N10 := Fr.snoc X10 N1 ge_r0
      have Z10 : n0 ≤ h10.size := Nat.le_trans Z0 (Keep.of_wr W10).1
      have F_monthOffset_r0_10 := F_monthOffset_r0_0.same W10
      refine own_go (fun tg k => st10 tg k) ?_
      show own_Fin _ _ _ _ _ _ _ (T10.setTop (mkF m 40 #[.val (.ref r0), .val (.int p1), .val (.int p2)] []))
      refine own_go (fun _ k => XS.aloadN X10.here hx rfl (hb hby d2_40) rfl rfl k) ?_
      show own_Fin _ _ _ _ _ _ _ (T10.setTop (mkF m 41 #[.val (.ref r0), .val (.int p1), .val (.int p2)] [(.ref r0)]))
      refine own_go (fun _ k => XS.iloadN X10.here hx rfl (hb hby d2_41) rfl k) ?_
      show own_Fin _ _ _ _ _ _ _ (T10.setTop (mkF m 42 #[.val (.ref r0), .val (.int p1), .val (.int p2)] [(.int p2), (.ref r0)]))
      obtain ⟨T11, h11, X11, e11, W11, st11⟩ := putF X10 hx hZ hown (host := "") (Or.inl (hw _ (List.mem_of_getElem? (i := 20) rfl))) Via.refl e10 F_day_r0_10 E_r0_10 (Or.inr ⟨(hw _ (List.mem_of_getElem? (i := 21) rfl)), rfl, hnm⟩) (hw _ (List.mem_of_getElem? (i := 5) rfl)) (ty := .int) (by decide) rfl rfl (g := (mkF m 42 #[.val (.ref r0), .val (.int p1), .val (.int p2)] [(.int p2), (.ref r0)])) rfl rfl (hb hby d2_42)
      have E_r0_11 := E_r0_10.wr W11
      have F_monthOffset_r0_11 := F_monthOffset_r0_10.other W11 (Or.inr (slot_ne (Or.inr (hw _ (List.mem_of_getElem? (i := 19) rfl))) (Or.inr (hw _ (List.mem_of_getElem? (i := 21) rfl))) (by decide) (t := .int) (t' := .int) (by decide) (by decide)))
      have K11 := K10.wr W11 (Or.inl (List.mem_of_getElem? (i := 0) rfl))
      have N11 := Fr.snoc X11 N10 ge_r0
      have Z11 : n0 ≤ h11.size := Nat.le_trans Z10 (Keep.of_wr W11).1
      have F_day_r0_11 := F_day_r0_10.same W11
      refine own_go (fun tg k => st11 tg k) ?_
      show own_Fin _ _ _ _ _ _ _ (T11.setTop (mkF m 45 #[.val (.ref r0), .val (.int p1), .val (.int p2)] []))
      refine own_retV X11 hx hlk Bd.returns (hb hby d2_45) (Nat.le_of_ble_eq_true rfl) (Nat.le_of_ble_eq_true rfl) ?_
      rw [e11]
      refine ⟨rfl, N11, K11, E_r0_11, ?_, ?_⟩
      · first | (exact F_monthOffset_r0_11) | (simp only [if_neg hc2, if_neg hc6]; exact F_monthOffset_r0_11)
      · first | (exact F_day_r0_11) | (simp only [if_neg hc2, if_neg hc6]; exact F_day_r0_11)
theorem d5_0 : decode prog_44_method_6_code 0 = .ok (.aload_n 0, 1) := by decide +kernel
theorem d5_1 : decode prog_44_method_6_code 1 = .ok (.getfield 18, 3) := by decide +kernel
theorem d5_4 : decode prog_44_method_6_code 4 = .ok (.aload_n 1, 1) := by decide +kernel
theorem d5_5 : decode prog_44_method_6_code 5 = .ok (.getfield 18, 3) := by decide +kernel
theorem d5_8 : decode prog_44_method_6_code 8 = .ok (.if_icmp .gt 25, 3) := by decide +kernel
theorem d5_11 : decode prog_44_method_6_code 11 = .ok (.aload_n 0, 1) := by decide +kernel
theorem d5_12 : decode prog_44_method_6_code 12 = .ok (.getfield 18, 3) := by decide +kernel
theorem d5_15 : decode prog_44_method_6_code 15 = .ok (.aload_n 1, 1) := by decide +kernel
theorem d5_16 : decode prog_44_method_6_code 16 = .ok (.getfield 18, 3) := by decide +kernel
theorem d5_19 : decode prog_44_method_6_code 19 = .ok (.if_icmp .ne 18, 3) := by decide +kernel
theorem d5_22 : decode prog_44_method_6_code 22 = .ok (.aload_n 0, 1) := by decide +kernel
theorem d5_23 : decode prog_44_method_6_code 23 = .ok (.getfield 22, 3) := by decide +kernel
theorem d5_26 : decode prog_44_method_6_code 26 = .ok (.aload_n 1, 1) := by decide +kernel
theorem d5_27 : decode prog_44_method_6_code 27 = .ok (.getfield 22, 3) := by decide +kernel
theorem d5_30 : decode prog_44_method_6_code 30 = .ok (.if_icmp .le 7, 3) := by decide +kernel
theorem d5_33 : decode prog_44_method_6_code 33 = .ok (.iconst 1, 1) := by decide +kernel
theorem d5_34 : decode prog_44_method_6_code 34 = .ok (.goto 4, 3) := by decide +kernel
theorem d5_37 : decode prog_44_method_6_code 37 = .ok (.iconst 0, 1) := by decide +kernel
theorem d5_38 : decode prog_44_method_6_code 38 = .ok (.ireturn, 1) := by decide +kernel
theorem pn_5 : plainName "com/example/plain_tariff/plaintariff/RelativeDay" = true := by first | (simp [plainName, overriddenIn]; done) | decide +kernel
theorem ef_5 (m : MethodId) (r0 : Addr) (r1 : Addr) : entryFrame m #[(.ref r0), (.ref r1)] 2 = mkF m 0 #[.val (.ref r0), .val (.ref r1)] [] := by first | (simp [entryFrame, mkF, argsToLocals, Value.category]; done) | rfl
def rm5_room : Room := { frames := 0, cells := 0, slots := 0, locals := 0 }
def own_f5 (x1 : Int32) (x2 : Int32) (x3 : Int32) (x4 : Int32) : Int32 := (if x3 < x1 then ((1 : Int32)) else ((if x1 = x3 then ((if x4 < x2 then ((1 : Int32)) else ((0 : Int32)))) else ((0 : Int32)))))
def Qrm5 (Z : State) (r0 : Addr) (r1 : Addr) (x1 : Int32) (x2 : Int32) (x3 : Int32) (x4 : Int32) (h0 : Heap) (n0 : Nat) (v : Option Value) (h : Heap) (L : List Loc) : Prop := v = some (.int (own_f5 x1 x2 x3 x4)) ∧ Fr n0 L ∧ h = h0
set_option maxRecDepth 65536 in
set_option maxHeartbeats 40000000 in
theorem rm5 (l : Launch) (Z : State) (a0 : Array Value) (hw : ∀ d ∈ tables_1, d.before a0 Z = true) (ws : List Jvm.Cond) (r0 : Addr) (r1 : Addr) (x1 : Int32) (x2 : Int32) (x3 : Int32) (x4 : Int32) (h0 : Heap) (n0 : Nat) (Z0 : n0 ≤ h0.size) (F_monthOffset_r0_0 : Fld Z h0 r0 "com/example/plain_tariff/plaintariff/RelativeDay" "monthOffset" "I" (.int x1)) (F_day_r0_0 : Fld Z h0 r0 "com/example/plain_tariff/plaintariff/RelativeDay" "day" "I" (.int x2)) (F_monthOffset_r1_0 : Fld Z h0 r1 "com/example/plain_tariff/plaintariff/RelativeDay" "monthOffset" "I" (.int x3)) (F_day_r1_0 : Fld Z h0 r1 "com/example/plain_tariff/plaintariff/RelativeDay" "day" "I" (.int x4)) :
    MetFree l (⟨"com/example/plain_tariff/plaintariff/RelativeDay", "isAfter", "(Lcom/example/plain_tariff/plaintariff/RelativeDay;)Z"⟩ : MethodName) (head1 (Jvm.Cond.code (⟨"com/example/plain_tariff/plaintariff/RelativeDay", "isAfter", "(Lcom/example/plain_tariff/plaintariff/RelativeDay;)Z"⟩ : MethodName) prog_44_method_6_code 2 (some .boolean) :: ws) rm5_room) (fun a U => a = #[(.ref r0), (.ref r1)] ∧ Z.Warmed39 U.vm ∧ U.heap = h0) (fun _ _ _ _ _ => True) (fun _ U o U' => ∃ v L, o = .returned v ∧ Qrm5 Z r0 r1 x1 x2 x3 x4 h0 n0 v U'.heap L ∧ FrameEnd U o U' L rm5_room.cells rm5_room.slots) := by
  refine MetFree.of_bodySF (plainFor_of_name pn_5) hisR ?_
  intro p e s m args below meth c s₁ Bd hml0 hP hK
  obtain ⟨rfl, hZ, hh⟩ := hP
  have hx := Bd.exec
  have hby := Bd.bytes
  have hml : c.maxLocals = 2 := hml0
  have hown : s.vm.findClass "com/example/plain_tariff/plaintariff/RelativeDay" = some m.cls := findClass_of_methodNamed Bd.named
  have hnm := (name_of_methodNamed Bd.named Bd.method).1
  have hlk : meth.locks = false := BodyLoose.notSynchronized Bd
  have X0 : Stand p l e rm5_room s m #[(.ref r0), (.ref r1)] below meth c s₁ [] 0 0 := Stand.of_body Bd
  have e0 : s₁.heap = h0 := by rw [← hh, Bd.state]; rfl
  have N0 := Fr.nil n0
  show own_Fin p.tables e below s (Qrm5 Z r0 r1 x1 x2 x3 x4 h0 n0) rm5_room.cells rm5_room.slots (s₁.setTop (entryFrame m #[(.ref r0), (.ref r1)] 2))
  rw [ef_5]
  show own_Fin _ _ _ _ _ _ _ (s₁.setTop (mkF m 0 #[.val (.ref r0), .val (.ref r1)] []))
  refine own_go (fun _ k => XS.aloadN X0.here hx rfl (hb hby d5_0) rfl rfl k) ?_
  show own_Fin _ _ _ _ _ _ _ (s₁.setTop (mkF m 1 #[.val (.ref r0), .val (.ref r1)] [(.ref r0)]))
  obtain ⟨T1, X1, e1, st1⟩ := getF X0 hx hZ hown (host := "") (Or.inl (hw _ (List.mem_of_getElem? (i := 18) rfl))) Via.refl e0 F_monthOffset_r0_0 (g := (mkF m 1 #[.val (.ref r0), .val (.ref r1)] [(.ref r0)])) rfl rfl (hb hby d5_1)
  refine own_go (fun tg k => st1 tg k) ?_
  show own_Fin _ _ _ _ _ _ _ (T1.setTop (mkF m 4 #[.val (.ref r0), .val (.ref r1)] [(.int x1)]))
  refine own_go (fun _ k => XS.aloadN X1.here hx rfl (hb hby d5_4) rfl rfl k) ?_
  show own_Fin _ _ _ _ _ _ _ (T1.setTop (mkF m 5 #[.val (.ref r0), .val (.ref r1)] [(.ref r1), (.int x1)]))
  obtain ⟨T2, X2, e2, st2⟩ := getF X1 hx hZ hown (host := "") (Or.inl (hw _ (List.mem_of_getElem? (i := 18) rfl))) Via.refl e1 F_monthOffset_r1_0 (g := (mkF m 5 #[.val (.ref r0), .val (.ref r1)] [(.ref r1), (.int x1)])) rfl rfl (hb hby d5_5)
  refine own_go (fun tg k => st2 tg k) ?_
  show own_Fin _ _ _ _ _ _ _ (T2.setTop (mkF m 8 #[.val (.ref r0), .val (.ref r1)] [(.int x3), (.int x1)]))
  by_cases hc3 : x3 < x1
  · refine own_go (fun _ k => XS.icmpYes X2.here hx rfl (pc0 := 8) (pc' := 33) rfl (hb hby d5_8) rfl (tlt hc3).2.2.1 (by decide) (by decide) k) ?_
    show own_Fin _ _ _ _ _ _ _ (T2.setTop (mkF m 33 #[.val (.ref r0), .val (.ref r1)] []))
    refine own_go (fun _ k => XS.iconst X2.here hx rfl (hb hby d5_33) k) ?_
    show own_Fin _ _ _ _ _ _ _ (T2.setTop (mkF m 34 #[.val (.ref r0), .val (.ref r1)] [(.int (1 : Int32))]))
    refine own_go (fun _ k => XS.goto X2.here hx rfl (pc0 := 34) (pc' := 38) rfl (hb hby d5_34) (by decide) (by decide) k) ?_
    show own_Fin _ _ _ _ _ _ _ (T2.setTop (mkF m 38 #[.val (.ref r0), .val (.ref r1)] [(.int (1 : Int32))]))
    refine own_ret X2 hx hlk Bd.returns rfl (Or.inl ⟨rfl, by simp, _, rfl⟩) (hb hby d5_38) (Nat.le_of_ble_eq_true rfl) (Nat.le_of_ble_eq_true rfl) ?_
    refine ⟨?_, N0, e2⟩
    · first | rfl | (simp only [own_f5, if_pos hc3]; done) | (simp only [own_f5, if_pos hc3]; rfl)
  · refine own_go (fun _ k => XS.icmpNo X2.here hx rfl (hb hby d5_8) rfl (flt hc3).2.2.1 k) ?_
    show own_Fin _ _ _ _ _ _ _ (T2.setTop (mkF m 11 #[.val (.ref r0), .val (.ref r1)] []))
    refine own_go (fun _ k => XS.aloadN X2.here hx rfl (hb hby d5_11) rfl rfl k) ?_
    show own_Fin _ _ _ _ _ _ _ (T2.setTop (mkF m 12 #[.val (.ref r0), .val (.ref r1)] [(.ref r0)]))
    obtain ⟨T4, X4, e4, st4⟩ := getF X2 hx hZ hown (host := "") (Or.inl (hw _ (List.mem_of_getElem? (i := 18) rfl))) Via.refl e2 F_monthOffset_r0_0 (g := (mkF m 12 #[.val (.ref r0), .val (.ref r1)] [(.ref r0)])) rfl rfl (hb hby d5_12)
    refine own_go (fun tg k => st4 tg k) ?_
    show own_Fin _ _ _ _ _ _ _ (T4.setTop (mkF m 15 #[.val (.ref r0), .val (.ref r1)] [(.int x1)]))
    refine own_go (fun _ k => XS.aloadN X4.here hx rfl (hb hby d5_15) rfl rfl k) ?_
    show own_Fin _ _ _ _ _ _ _ (T4.setTop (mkF m 16 #[.val (.ref r0), .val (.ref r1)] [(.ref r1), (.int x1)]))
    obtain ⟨T5, X5, e5, st5⟩ := getF X4 hx hZ hown (host := "") (Or.inl (hw _ (List.mem_of_getElem? (i := 18) rfl))) Via.refl e4 F_monthOffset_r1_0 (g := (mkF m 16 #[.val (.ref r0), .val (.ref r1)] [(.ref r1), (.int x1)])) rfl rfl (hb hby d5_16)
    refine own_go (fun tg k => st5 tg k) ?_
    show own_Fin _ _ _ _ _ _ _ (T5.setTop (mkF m 19 #[.val (.ref r0), .val (.ref r1)] [(.int x3), (.int x1)]))
    by_cases hc6 : x1 = x3
    · refine own_go (fun _ k => XS.icmpNo X5.here hx rfl (hb hby d5_19) rfl (teq hc6).2 k) ?_
      show own_Fin _ _ _ _ _ _ _ (T5.setTop (mkF m 22 #[.val (.ref r0), .val (.ref r1)] []))
      refine own_go (fun _ k => XS.aloadN X5.here hx rfl (hb hby d5_22) rfl rfl k) ?_
      show own_Fin _ _ _ _ _ _ _ (T5.setTop (mkF m 23 #[.val (.ref r0), .val (.ref r1)] [(.ref r0)]))
      obtain ⟨T7, X7, e7, st7⟩ := getF X5 hx hZ hown (host := "") (Or.inl (hw _ (List.mem_of_getElem? (i := 20) rfl))) Via.refl e5 F_day_r0_0 (g := (mkF m 23 #[.val (.ref r0), .val (.ref r1)] [(.ref r0)])) rfl rfl (hb hby d5_23)
      refine own_go (fun tg k => st7 tg k) ?_
      show own_Fin _ _ _ _ _ _ _ (T7.setTop (mkF m 26 #[.val (.ref r0), .val (.ref r1)] [(.int x2)]))
      refine own_go (fun _ k => XS.aloadN X7.here hx rfl (hb hby d5_26) rfl rfl k) ?_
      show own_Fin _ _ _ _ _ _ _ (T7.setTop (mkF m 27 #[.val (.ref r0), .val (.ref r1)] [(.ref r1), (.int x2)]))
      obtain ⟨T8, X8, e8, st8⟩ := getF X7 hx hZ hown (host := "") (Or.inl (hw _ (List.mem_of_getElem? (i := 20) rfl))) Via.refl e7 F_day_r1_0 (g := (mkF m 27 #[.val (.ref r0), .val (.ref r1)] [(.ref r1), (.int x2)])) rfl rfl (hb hby d5_27)
      refine own_go (fun tg k => st8 tg k) ?_
      show own_Fin _ _ _ _ _ _ _ (T8.setTop (mkF m 30 #[.val (.ref r0), .val (.ref r1)] [(.int x4), (.int x2)]))
      by_cases hc9 : x4 < x2
      · refine own_go (fun _ k => XS.icmpNo X8.here hx rfl (hb hby d5_30) rfl (tlt hc9).2.2.2 k) ?_
        show own_Fin _ _ _ _ _ _ _ (T8.setTop (mkF m 33 #[.val (.ref r0), .val (.ref r1)] []))
        refine own_go (fun _ k => XS.iconst X8.here hx rfl (hb hby d5_33) k) ?_
        show own_Fin _ _ _ _ _ _ _ (T8.setTop (mkF m 34 #[.val (.ref r0), .val (.ref r1)] [(.int (1 : Int32))]))
        refine own_go (fun _ k => XS.goto X8.here hx rfl (pc0 := 34) (pc' := 38) rfl (hb hby d5_34) (by decide) (by decide) k) ?_
        show own_Fin _ _ _ _ _ _ _ (T8.setTop (mkF m 38 #[.val (.ref r0), .val (.ref r1)] [(.int (1 : Int32))]))
        refine own_ret X8 hx hlk Bd.returns rfl (Or.inl ⟨rfl, by simp, _, rfl⟩) (hb hby d5_38) (Nat.le_of_ble_eq_true rfl) (Nat.le_of_ble_eq_true rfl) ?_
        refine ⟨?_, N0, e8⟩
        · first | rfl | (simp only [own_f5, if_neg hc3, if_pos hc6, if_pos hc9]; done) | (simp only [own_f5, if_neg hc3, if_pos hc6, if_pos hc9]; rfl)
      · refine own_go (fun _ k => XS.icmpYes X8.here hx rfl (pc0 := 30) (pc' := 37) rfl (hb hby d5_30) rfl (flt hc9).2.2.2 (by decide) (by decide) k) ?_
        show own_Fin _ _ _ _ _ _ _ (T8.setTop (mkF m 37 #[.val (.ref r0), .val (.ref r1)] []))
        refine own_go (fun _ k => XS.iconst X8.here hx rfl (hb hby d5_37) k) ?_
        show own_Fin _ _ _ _ _ _ _ (T8.setTop (mkF m 38 #[.val (.ref r0), .val (.ref r1)] [(.int (0 : Int32))]))
        refine own_ret X8 hx hlk Bd.returns rfl (Or.inl ⟨rfl, by simp, _, rfl⟩) (hb hby d5_38) (Nat.le_of_ble_eq_true rfl) (Nat.le_of_ble_eq_true rfl) ?_
        refine ⟨?_, N0, e8⟩
        · first | rfl | (simp only [own_f5, if_neg hc3, if_pos hc6, if_neg hc9]; done) | (simp only [own_f5, if_neg hc3, if_pos hc6, if_neg hc9]; rfl)
    · refine own_go (fun _ k => XS.icmpYes X5.here hx rfl (pc0 := 19) (pc' := 37) rfl (hb hby d5_19) rfl (feq hc6).2 (by decide) (by decide) k) ?_
      show own_Fin _ _ _ _ _ _ _ (T5.setTop (mkF m 37 #[.val (.ref r0), .val (.ref r1)] []))
      refine own_go (fun _ k => XS.iconst X5.here hx rfl (hb hby d5_37) k) ?_
      show own_Fin _ _ _ _ _ _ _ (T5.setTop (mkF m 38 #[.val (.ref r0), .val (.ref r1)] [(.int (0 : Int32))]))
      refine own_ret X5 hx hlk Bd.returns rfl (Or.inl ⟨rfl, by simp, _, rfl⟩) (hb hby d5_38) (Nat.le_of_ble_eq_true rfl) (Nat.le_of_ble_eq_true rfl) ?_
      refine ⟨?_, N0, e5⟩
      · first | rfl | (simp only [own_f5, if_neg hc3, if_neg hc6]; done) | (simp only [own_f5, if_neg hc3, if_neg hc6]; rfl)
theorem own_day (x : Int32) : (¬ own_f1 x < (1 : Int32) ∧ ¬ (28 : Int32) < own_f1 x) ∨ own_f1 x = (31 : Int32) := by
  have k0 : (0 : Int32).toInt = 0 := by decide
  have k1 : (1 : Int32).toInt = 1 := by decide
  have k28 : (28 : Int32).toInt = 28 := by decide
  have a := c_and x 31 (by decide)
  have m := (c_irem (x &&& 31) 29 29 (by decide)).1 a.1
  simp only [own_f1]
  generalize (x &&& (31 : Int32)) % (29 : Int32) = d at *
  by_cases h : d = 0
  · rw [if_pos h]; exact Or.inr rfl
  · rw [if_neg h]
    left
    have h' : d.toInt ≠ 0 := fun q => h (Int32.toInt_inj.mp (q.trans k0.symm))
    simp only [Int32.lt_iff_toInt_lt, k1, k28]
    omega
theorem own_pd58 : parseMethodDescriptor "(I)I" = some ⟨[.int], some .int⟩ := by decide +kernel
theorem own_pd59 : parseMethodDescriptor "(II)V" = some ⟨[.int, .int], none⟩ := by decide +kernel
theorem own_pd60 : parseMethodDescriptor "(Lcom/example/plain_tariff/plaintariff/RelativeDay;)Z" = some ⟨[(.object "com/example/plain_tariff/plaintariff/RelativeDay")], some .boolean⟩ := by decide +kernel
theorem pn_0 : plainName "com/example/plain_tariff/plaintariff/RelativeDayIsAfterPinLaw" = true := by first | (simp [plainName, overriddenIn]; done) | decide +kernel
theorem ef_0 (m : MethodId) (p0 : Int32) (p1 : Int32) (p2 : Int32) (p3 : Int32) : entryFrame m #[(.int p0), (.int p1), (.int p2), (.int p3)] maxLocals = mkF m 0 #[.val (.int p0), .val (.int p1), .val (.int p2), .val (.int p3), .unset, .unset, .unset, .unset, .unset, .unset, .unset, .unset, .unset, .unset] [] := by first | (simp [entryFrame, mkF, argsToLocals, Value.category, maxLocals]; done) | rfl
def own_f0 (p0 : Int32) (p1 : Int32) (p2 : Int32) (p3 : Int32) : Int32 := let z7 := (((p0.toInt64) * (32 : Int64)) + ((own_f1 p1).toInt64)); let z8 := (((p2.toInt64) * (32 : Int64)) + ((own_f1 p3).toInt64)); let z10 := (own_f5 p0 (own_f1 p1) p2 (own_f1 p3)); let z12 := (own_f5 p2 (own_f1 p3) p0 (own_f1 p1)); let z16 := (if z8 < z7 then (1 : Int32) else (0 : Int32)); (if z10 = z16 then (let z21 := (if z7 < z8 then (1 : Int32) else (0 : Int32)); (if z12 = z21 then ((1 : Int32)) else ((0 : Int32)))) else ((0 : Int32)))
set_option maxRecDepth 65536 in
set_option maxHeartbeats 40000000 in
theorem rm0 (l : Launch) (Z : State) (a0 : Array Value) (hw : ∀ d ∈ tables_1, d.before a0 Z = true) (ws : List Jvm.Cond) (p0 : Int32) (p1 : Int32) (p2 : Int32) (p3 : Int32) (h0 : Heap) (n0 : Nat) (Z0 : n0 ≤ h0.size) :
    MetFree l x (head1 (Jvm.Cond.code x code maxLocals ret :: ws) room_1) (fun a U => a = #[(.int p0), (.int p1), (.int p2), (.int p3)] ∧ Z.Warmed39 U.vm ∧ U.heap = h0) (fun _ _ _ _ _ => True) (fun _ U o U' => ∃ v L, o = .returned v ∧ own_QL (some (.int (own_f0 p0 p1 p2 p3))) n0 v U'.heap L ∧ FrameEnd U o U' L 16 128) := by
  refine MetFree.of_bodySF (plainFor_of_name pn_0) hisR ?_
  intro p e s m args below meth c s₁ Bd hml0 hP hK
  obtain ⟨rfl, hZ, hh⟩ := hP
  have hx := Bd.exec
  have hby := Bd.bytes
  have hml : c.maxLocals = 14 := hml0
  have hown : s.vm.findClass "com/example/plain_tariff/plaintariff/RelativeDayIsAfterPinLaw" = some m.cls := findClass_of_methodNamed Bd.named
  have hnm := (name_of_methodNamed Bd.named Bd.method).1
  have hlk : meth.locks = false := BodyLoose.notSynchronized Bd
  have X0 : Stand p l e room_1 s m #[(.int p0), (.int p1), (.int p2), (.int p3)] below meth c s₁ [] 0 0 := Stand.of_body Bd
  have e0 : s₁.heap = h0 := by rw [← hh, Bd.state]; rfl
  have N0 := Fr.nil n0
  show own_Fin p.tables e below s (own_QL (some (.int (own_f0 p0 p1 p2 p3))) n0) 16 128 (s₁.setTop (entryFrame m #[(.int p0), (.int p1), (.int p2), (.int p3)] maxLocals))
  rw [ef_0]
  show own_Fin _ _ _ _ _ _ _ (s₁.setTop (mkF m 0 #[.val (.int p0), .val (.int p1), .val (.int p2), .val (.int p3), .unset, .unset, .unset, .unset, .unset, .unset, .unset, .unset, .unset, .unset] []))
  refine own_go (fun _ k => XS.iloadN X0.here hx rfl (hb hby at_0) rfl k) ?_
  show own_Fin _ _ _ _ _ _ _ (s₁.setTop (mkF m 1 #[.val (.int p0), .val (.int p1), .val (.int p2), .val (.int p3), .unset, .unset, .unset, .unset, .unset, .unset, .unset, .unset, .unset, .unset] [(.int p1)]))
  obtain ⟨_, _, ⟨T1, L1, k1, n1⟩, -, X1, ⟨Lc1, hQ1, l1, y1, z1⟩, st1⟩ := Jvm.LawKit.callS X0 hx (y := (⟨"com/example/plain_tariff/plaintariff/RelativeDayIsAfterPinLaw", "day", "(I)I"⟩ : MethodName)) hown (mvT hZ (hw _ (List.mem_of_getElem? (i := 0) rfl))) (mvT hZ (hw _ (List.mem_of_getElem? (i := 1) rfl))) (mvT hZ (hw _ (List.mem_of_getElem? (i := 2) rfl))) (mvT hZ (hw _ (List.mem_of_getElem? (i := 3) rfl))) (by decide) (backOf (W := 0) (rm1 l Z a0 hw [] p1 h0 n0 Z0) hZ (hw _ (List.mem_of_getElem? (i := 3) rfl)) (hw _ (List.mem_of_getElem? (i := 2) rfl)) (by decide) (by decide)) (g := (mkF m 1 #[.val (.int p0), .val (.int p1), .val (.int p2), .val (.int p3), .unset, .unset, .unset, .unset, .unset, .unset, .unset, .unset, .unset, .unset] [(.int p1)])) rfl (by rw [hml]; rfl) (argsL := [(.int p1)]) (rest := []) (lenOf own_pd58 rfl) rfl (by show 2 * 0 + _ ≤ _; exact Nat.le_of_eq rfl) (hb hby at_1) (fun _ _ => ⟨rfl, e0, (by decide : 0 + 0 ≤ _), (by decide : 0 + 0 ≤ _)⟩)
  dsimp only [Pt.U, Pt.locs, Pt.cells, Pt.slots] at X1 l1 y1 z1 st1 hQ1
  subst l1 y1 z1
  obtain ⟨rfl, N1q, e1⟩ := hQ1
  have N1 := Fr.app N0 N1q
  refine own_go (fun tg k => st1 tg k) ?_
  show own_Fin _ _ _ _ _ _ _ (T1.setTop (mkF m 4 #[.val (.int p0), .val (.int p1), .val (.int p2), .val (.int p3), .unset, .unset, .unset, .unset, .unset, .unset, .unset, .unset, .unset, .unset] [(.int (own_f1 p1))]))
  refine own_go (fun _ k => XS.istore X1.here hx rfl (hb hby at_4) rfl (l' := #[.val (.int p0), .val (.int p1), .val (.int p2), .val (.int p3), .val (.int (own_f1 p1)), .unset, .unset, .unset, .unset, .unset, .unset, .unset, .unset, .unset]) rfl k) ?_
  show own_Fin _ _ _ _ _ _ _ (T1.setTop (mkF m 6 #[.val (.int p0), .val (.int p1), .val (.int p2), .val (.int p3), .val (.int (own_f1 p1)), .unset, .unset, .unset, .unset, .unset, .unset, .unset, .unset, .unset] []))
  refine own_go (fun _ k => XS.iloadN X1.here hx rfl (hb hby at_6) rfl k) ?_
  show own_Fin _ _ _ _ _ _ _ (T1.setTop (mkF m 7 #[.val (.int p0), .val (.int p1), .val (.int p2), .val (.int p3), .val (.int (own_f1 p1)), .unset, .unset, .unset, .unset, .unset, .unset, .unset, .unset, .unset] [(.int p3)]))
  obtain ⟨_, _, ⟨T2, L2, k2, n2⟩, -, X2, ⟨Lc2, hQ2, l2, y2, z2⟩, st2⟩ := Jvm.LawKit.callS X1 hx (y := (⟨"com/example/plain_tariff/plaintariff/RelativeDayIsAfterPinLaw", "day", "(I)I"⟩ : MethodName)) hown (mvT hZ (hw _ (List.mem_of_getElem? (i := 0) rfl))) (mvT hZ (hw _ (List.mem_of_getElem? (i := 1) rfl))) (mvT hZ (hw _ (List.mem_of_getElem? (i := 2) rfl))) (mvT hZ (hw _ (List.mem_of_getElem? (i := 3) rfl))) (by decide) (backOf (W := 0) (rm1 l Z a0 hw [] p3 h0 n0 Z0) hZ (hw _ (List.mem_of_getElem? (i := 3) rfl)) (hw _ (List.mem_of_getElem? (i := 2) rfl)) (by decide) (by decide)) (g := (mkF m 7 #[.val (.int p0), .val (.int p1), .val (.int p2), .val (.int p3), .val (.int (own_f1 p1)), .unset, .unset, .unset, .unset, .unset, .unset, .unset, .unset, .unset] [(.int p3)])) rfl (by rw [hml]; rfl) (argsL := [(.int p3)]) (rest := []) (lenOf own_pd58 rfl) rfl (by show 2 * 0 + _ ≤ _; exact Nat.le_of_eq rfl) (hb hby at_7) (fun _ _ => ⟨rfl, e1, (by decide : 0 + 0 ≤ _), (by decide : 0 + 0 ≤ _)⟩)
  dsimp only [Pt.U, Pt.locs, Pt.cells, Pt.slots] at X2 l2 y2 z2 st2 hQ2
  subst l2 y2 z2
  obtain ⟨rfl, N2q, e2⟩ := hQ2
  have N2 := Fr.app N1 N2q
  refine own_go (fun tg k => st2 tg k) ?_
  show own_Fin _ _ _ _ _ _ _ (T2.setTop (mkF m 10 #[.val (.int p0), .val (.int p1), .val (.int p2), .val (.int p3), .val (.int (own_f1 p1)), .unset, .unset, .unset, .unset, .unset, .unset, .unset, .unset, .unset] [(.int (own_f1 p3))]))
  refine own_go (fun _ k => XS.istore X2.here hx rfl (hb hby at_10) rfl (l' := #[.val (.int p0), .val (.int p1), .val (.int p2), .val (.int p3), .val (.int (own_f1 p1)), .val (.int (own_f1 p3)), .unset, .unset, .unset, .unset, .unset, .unset, .unset, .unset]) rfl k) ?_
  show own_Fin _ _ _ _ _ _ _ (T2.setTop (mkF m 12 #[.val (.int p0), .val (.int p1), .val (.int p2), .val (.int p3), .val (.int (own_f1 p1)), .val (.int (own_f1 p3)), .unset, .unset, .unset, .unset, .unset, .unset, .unset, .unset] []))
  obtain ⟨T3, h3, X3, e3, E3, A3, D3, -, st3⟩ := newO X2 hx hZ hown (hw _ (List.mem_of_getElem? (i := 4) rfl)) (hw _ (List.mem_of_getElem? (i := 5) rfl)) (hw _ (List.mem_of_getElem? (i := 6) rfl)) e2 (g := (mkF m 12 #[.val (.int p0), .val (.int p1), .val (.int p2), .val (.int p3), .val (.int (own_f1 p1)), .val (.int (own_f1 p3)), .unset, .unset, .unset, .unset, .unset, .unset, .unset, .unset] [])) rfl (hb hby at_12) (by decide) (by decide)
  obtain ⟨b3, g3⟩ : ∃ z, z = h0.size := ⟨_, rfl⟩
  rw [← g3] at A3 D3 st3
  have ge_b3 : n0 ≤ b3 := Nat.le_trans Z0 (Nat.le_of_eq g3.symm)
  have Z3 : n0 ≤ h3.size := Nat.le_trans Z0 E3.1
  have E_b3_3 : Exa Z h3 b3 "com/example/plain_tariff/plaintariff/RelativeDay" := A3
  have F_monthOffset_b3_3 : Fld Z h3 b3 "com/example/plain_tariff/plaintariff/RelativeDay" "monthOffset" "I" (.int (0 : Int32)) := D3 (Or.inr (hw _ (List.mem_of_getElem? (i := 19) rfl))) (ty := .int) (by decide)
  have F_day_b3_3 : Fld Z h3 b3 "com/example/plain_tariff/plaintariff/RelativeDay" "day" "I" (.int (0 : Int32)) := D3 (Or.inr (hw _ (List.mem_of_getElem? (i := 21) rfl))) (ty := .int) (by decide)
  refine own_go (fun tg k => st3 tg k) ?_
  show own_Fin _ _ _ _ _ _ _ (T3.setTop (mkF m 15 #[.val (.int p0), .val (.int p1), .val (.int p2), .val (.int p3), .val (.int (own_f1 p1)), .val (.int (own_f1 p3)), .unset, .unset, .unset, .unset, .unset, .unset, .unset, .unset] [(.ref b3)]))
  refine own_go (fun _ k => XS.dup X3.here hx rfl (hb hby at_15) rfl rfl k) ?_
  show own_Fin _ _ _ _ _ _ _ (T3.setTop (mkF m 16 #[.val (.int p0), .val (.int p1), .val (.int p2), .val (.int p3), .val (.int (own_f1 p1)), .val (.int (own_f1 p3)), .unset, .unset, .unset, .unset, .unset, .unset, .unset, .unset] [(.ref b3), (.ref b3)]))
  refine own_go (fun _ k => XS.iloadN X3.here hx rfl (hb hby at_16) rfl k) ?_
  show own_Fin _ _ _ _ _ _ _ (T3.setTop (mkF m 17 #[.val (.int p0), .val (.int p1), .val (.int p2), .val (.int p3), .val (.int (own_f1 p1)), .val (.int (own_f1 p3)), .unset, .unset, .unset, .unset, .unset, .unset, .unset, .unset] [(.int p0), (.ref b3), (.ref b3)]))
  refine own_go (fun _ k => XS.iload X3.here hx rfl (hb hby at_17) rfl k) ?_
  show own_Fin _ _ _ _ _ _ _ (T3.setTop (mkF m 19 #[.val (.int p0), .val (.int p1), .val (.int p2), .val (.int p3), .val (.int (own_f1 p1)), .val (.int (own_f1 p3)), .unset, .unset, .unset, .unset, .unset, .unset, .unset, .unset] [(.int (own_f1 p1)), (.int p0), (.ref b3), (.ref b3)]))
  obtain ⟨_, _, ⟨T4, L4, k4, n4⟩, -, X4, ⟨Lc4, hQ4, l4, y4, z4⟩, st4⟩ := X3.specialBack hx (y := (⟨"com/example/plain_tariff/plaintariff/RelativeDay", "<init>", "(II)V"⟩ : MethodName)) rfl hown (mvT hZ (hw _ (List.mem_of_getElem? (i := 7) rfl))) (mvT hZ (hw _ (List.mem_of_getElem? (i := 8) rfl))) (mvT hZ (hw _ (List.mem_of_getElem? (i := 9) rfl))) (by decide) (backOf (W := 1) (rm2 l Z a0 hw [] b3 p0 (own_f1 p1) h3 n0 Z3 E_b3_3 F_monthOffset_b3_3 F_day_b3_3 ge_b3 (by first | exact own_day _ | (subst_vars; exact own_day _))) hZ (hw _ (List.mem_of_getElem? (i := 9) rfl)) (hw _ (List.mem_of_getElem? (i := 6) rfl)) (by decide) (by decide)) (g := (mkF m 19 #[.val (.int p0), .val (.int p1), .val (.int p2), .val (.int p3), .val (.int (own_f1 p1)), .val (.int (own_f1 p3)), .unset, .unset, .unset, .unset, .unset, .unset, .unset, .unset] [(.int (own_f1 p1)), (.int p0), (.ref b3), (.ref b3)])) rfl (by rw [hml]; rfl) (Steps.refl _) (a := b3) (argsL := [(.int p0), (.int (own_f1 p1))]) (rest := [(.ref b3)]) (lenOf own_pd59 rfl) rfl (by show 2 * 0 + _ ≤ _; exact Nat.le_of_eq rfl) (hb hby at_19) (fun _ _ => ⟨rfl, e3, (by decide : 1 + 0 ≤ _), (by decide : 2 + 0 ≤ _)⟩)
  dsimp only [Pt.U, Pt.locs, Pt.cells, Pt.slots] at X4 l4 y4 z4 st4 hQ4
  subst l4 y4 z4
  obtain ⟨rfl, N4q, Kq4, E_b3_4, F_monthOffset_b3_4, F_day_b3_4⟩ := hQ4
  have N4 := Fr.app N2 N4q
  have Z4 : n0 ≤ T4.heap.size := Nat.le_trans Z3 Kq4.1
  refine own_go (fun tg k => st4.trans k) ?_
  show own_Fin _ _ _ _ _ _ _ (T4.setTop (mkF m 22 #[.val (.int p0), .val (.int p1), .val (.int p2), .val (.int p3), .val (.int (own_f1 p1)), .val (.int (own_f1 p3)), .unset, .unset, .unset, .unset, .unset, .unset, .unset, .unset] [(.ref b3)]))
  refine own_go (fun _ k => XS.astore X4.here hx rfl (hb hby at_22) rfl rfl (l' := #[.val (.int p0), .val (.int p1), .val (.int p2), .val (.int p3), .val (.int (own_f1 p1)), .val (.int (own_f1 p3)), .val (.ref b3), .unset, .unset, .unset, .unset, .unset, .unset, .unset]) rfl k) ?_
  show own_Fin _ _ _ _ _ _ _ (T4.setTop (mkF m 24 #[.val (.int p0), .val (.int p1), .val (.int p2), .val (.int p3), .val (.int (own_f1 p1)), .val (.int (own_f1 p3)), .val (.ref b3), .unset, .unset, .unset, .unset, .unset, .unset, .unset] []))
  obtain ⟨T5, h5, X5, e5, E5, A5, D5, -, st5⟩ := newO X4 hx hZ hown (hw _ (List.mem_of_getElem? (i := 4) rfl)) (hw _ (List.mem_of_getElem? (i := 5) rfl)) (hw _ (List.mem_of_getElem? (i := 6) rfl)) rfl (g := (mkF m 24 #[.val (.int p0), .val (.int p1), .val (.int p2), .val (.int p3), .val (.int (own_f1 p1)), .val (.int (own_f1 p3)), .val (.ref b3), .unset, .unset, .unset, .unset, .unset, .unset, .unset] [])) rfl (hb hby at_24) (by decide) (by decide)
  obtain ⟨b5, g5⟩ : ∃ z, z = T4.heap.size := ⟨_, rfl⟩
  rw [← g5] at A5 D5 st5
  have ne_b3_b5 : b3 ≠ b5 := Nat.ne_of_lt (Nat.lt_of_lt_of_le E_b3_4.lt (Nat.le_of_eq g5.symm))
  have ge_b5 : n0 ≤ b5 := Nat.le_trans Z4 (Nat.le_of_eq g5.symm)
  have E_b3_5 := E_b3_4.ext E5
  have F_monthOffset_b3_5 := F_monthOffset_b3_4.ext E5
  have F_day_b3_5 := F_day_b3_4.ext E5
  have Z5 : n0 ≤ h5.size := Nat.le_trans Z4 E5.1
  have E_b5_5 : Exa Z h5 b5 "com/example/plain_tariff/plaintariff/RelativeDay" := A5
  have F_monthOffset_b5_5 : Fld Z h5 b5 "com/example/plain_tariff/plaintariff/RelativeDay" "monthOffset" "I" (.int (0 : Int32)) := D5 (Or.inr (hw _ (List.mem_of_getElem? (i := 19) rfl))) (ty := .int) (by decide)
  have F_day_b5_5 : Fld Z h5 b5 "com/example/plain_tariff/plaintariff/RelativeDay" "day" "I" (.int (0 : Int32)) := D5 (Or.inr (hw _ (List.mem_of_getElem? (i := 21) rfl))) (ty := .int) (by decide)
  refine own_go (fun tg k => st5 tg k) ?_
  show own_Fin _ _ _ _ _ _ _ (T5.setTop (mkF m 27 #[.val (.int p0), .val (.int p1), .val (.int p2), .val (.int p3), .val (.int (own_f1 p1)), .val (.int (own_f1 p3)), .val (.ref b3), .unset, .unset, .unset, .unset, .unset, .unset, .unset] [(.ref b5)]))
  refine own_go (fun _ k => XS.dup X5.here hx rfl (hb hby at_27) rfl rfl k) ?_
  show own_Fin _ _ _ _ _ _ _ (T5.setTop (mkF m 28 #[.val (.int p0), .val (.int p1), .val (.int p2), .val (.int p3), .val (.int (own_f1 p1)), .val (.int (own_f1 p3)), .val (.ref b3), .unset, .unset, .unset, .unset, .unset, .unset, .unset] [(.ref b5), (.ref b5)]))
  refine own_go (fun _ k => XS.iloadN X5.here hx rfl (hb hby at_28) rfl k) ?_
  show own_Fin _ _ _ _ _ _ _ (T5.setTop (mkF m 29 #[.val (.int p0), .val (.int p1), .val (.int p2), .val (.int p3), .val (.int (own_f1 p1)), .val (.int (own_f1 p3)), .val (.ref b3), .unset, .unset, .unset, .unset, .unset, .unset, .unset] [(.int p2), (.ref b5), (.ref b5)]))
  refine own_go (fun _ k => XS.iload X5.here hx rfl (hb hby at_29) rfl k) ?_
  show own_Fin _ _ _ _ _ _ _ (T5.setTop (mkF m 31 #[.val (.int p0), .val (.int p1), .val (.int p2), .val (.int p3), .val (.int (own_f1 p1)), .val (.int (own_f1 p3)), .val (.ref b3), .unset, .unset, .unset, .unset, .unset, .unset, .unset] [(.int (own_f1 p3)), (.int p2), (.ref b5), (.ref b5)]))
  obtain ⟨_, _, ⟨T6, L6, k6, n6⟩, -, X6, ⟨Lc6, hQ6, l6, y6, z6⟩, st6⟩ := X5.specialBack hx (y := (⟨"com/example/plain_tariff/plaintariff/RelativeDay", "<init>", "(II)V"⟩ : MethodName)) rfl hown (mvT hZ (hw _ (List.mem_of_getElem? (i := 7) rfl))) (mvT hZ (hw _ (List.mem_of_getElem? (i := 8) rfl))) (mvT hZ (hw _ (List.mem_of_getElem? (i := 9) rfl))) (by decide) (backOf (W := 1) (rm2 l Z a0 hw [] b5 p2 (own_f1 p3) h5 n0 Z5 E_b5_5 F_monthOffset_b5_5 F_day_b5_5 ge_b5 (by first | exact own_day _ | (subst_vars; exact own_day _))) hZ (hw _ (List.mem_of_getElem? (i := 9) rfl)) (hw _ (List.mem_of_getElem? (i := 6) rfl)) (by decide) (by decide)) (g := (mkF m 31 #[.val (.int p0), .val (.int p1), .val (.int p2), .val (.int p3), .val (.int (own_f1 p1)), .val (.int (own_f1 p3)), .val (.ref b3), .unset, .unset, .unset, .unset, .unset, .unset, .unset] [(.int (own_f1 p3)), (.int p2), (.ref b5), (.ref b5)])) rfl (by rw [hml]; rfl) (Steps.refl _) (a := b5) (argsL := [(.int p2), (.int (own_f1 p3))]) (rest := [(.ref b5)]) (lenOf own_pd59 rfl) rfl (by show 2 * 0 + _ ≤ _; exact Nat.le_of_eq rfl) (hb hby at_31) (fun _ _ => ⟨rfl, e5, (by decide : 2 + 0 ≤ _), (by decide : 4 + 0 ≤ _)⟩)
  dsimp only [Pt.U, Pt.locs, Pt.cells, Pt.slots] at X6 l6 y6 z6 st6 hQ6
  subst l6 y6 z6
  obtain ⟨rfl, N6q, Kq6, E_b5_6, F_monthOffset_b5_6, F_day_b5_6⟩ := hQ6
  have N6 := Fr.app N4 N6q
  have E_b3_6 := E_b3_5.keep Kq6
  have F_monthOffset_b3_6 := F_monthOffset_b3_5.keep Kq6 (ninS ne_b3_b5 nin0)
  have F_day_b3_6 := F_day_b3_5.keep Kq6 (ninS ne_b3_b5 nin0)
  have Z6 : n0 ≤ T6.heap.size := Nat.le_trans Z5 Kq6.1
  refine own_go (fun tg k => st6.trans k) ?_
  show own_Fin _ _ _ _ _ _ _ (T6.setTop (mkF m 34 #[.val (.int p0), .val (.int p1), .val (.int p2), .val (.int p3), .val (.int (own_f1 p1)), .val (.int (own_f1 p3)), .val (.ref b3), .unset, .unset, .unset, .unset, .unset, .unset, .unset] [(.ref b5)]))
  refine own_go (fun _ k => XS.astore X6.here hx rfl (hb hby at_34) rfl rfl (l' := #[.val (.int p0), .val (.int p1), .val (.int p2), .val (.int p3), .val (.int (own_f1 p1)), .val (.int (own_f1 p3)), .val (.ref b3), .val (.ref b5), .unset, .unset, .unset, .unset, .unset, .unset]) rfl k) ?_
  show own_Fin _ _ _ _ _ _ _ (T6.setTop (mkF m 36 #[.val (.int p0), .val (.int p1), .val (.int p2), .val (.int p3), .val (.int (own_f1 p1)), .val (.int (own_f1 p3)), .val (.ref b3), .val (.ref b5), .unset, .unset, .unset, .unset, .unset, .unset] []))
  refine own_go (fun _ k => XS.iloadN X6.here hx rfl (hb hby at_36) rfl k) ?_
  show own_Fin _ _ _ _ _ _ _ (T6.setTop (mkF m 37 #[.val (.int p0), .val (.int p1), .val (.int p2), .val (.int p3), .val (.int (own_f1 p1)), .val (.int (own_f1 p3)), .val (.ref b3), .val (.ref b5), .unset, .unset, .unset, .unset, .unset, .unset] [(.int p0)]))
  refine own_go (fun _ k => XS.i2l X6.here hx rfl (hb hby at_37) rfl k) ?_
  show own_Fin _ _ _ _ _ _ _ (T6.setTop (mkF m 38 #[.val (.int p0), .val (.int p1), .val (.int p2), .val (.int p3), .val (.int (own_f1 p1)), .val (.int (own_f1 p3)), .val (.ref b3), .val (.ref b5), .unset, .unset, .unset, .unset, .unset, .unset] [(.long (p0.toInt64))]))
  refine own_go (fun _ k => X6.ldc2Long hx hown (mvT hZ (hw _ (List.mem_of_getElem? (i := 22) rfl))) (g := (mkF m 38 #[.val (.int p0), .val (.int p1), .val (.int p2), .val (.int p3), .val (.int (own_f1 p1)), .val (.int (own_f1 p3)), .val (.ref b3), .val (.ref b5), .unset, .unset, .unset, .unset, .unset, .unset] [(.long (p0.toInt64))])) rfl (hb hby at_38) _ k) ?_
  show own_Fin _ _ _ _ _ _ _ (T6.setTop (mkF m 41 #[.val (.int p0), .val (.int p1), .val (.int p2), .val (.int p3), .val (.int (own_f1 p1)), .val (.int (own_f1 p3)), .val (.ref b3), .val (.ref b5), .unset, .unset, .unset, .unset, .unset, .unset] [(.long (32 : Int64)), (.long (p0.toInt64))]))
  refine own_go (fun _ k => XS.lmul X6.here hx rfl (hb hby at_41) rfl k) ?_
  show own_Fin _ _ _ _ _ _ _ (T6.setTop (mkF m 42 #[.val (.int p0), .val (.int p1), .val (.int p2), .val (.int p3), .val (.int (own_f1 p1)), .val (.int (own_f1 p3)), .val (.ref b3), .val (.ref b5), .unset, .unset, .unset, .unset, .unset, .unset] [(.long ((p0.toInt64) * (32 : Int64)))]))
  refine own_go (fun _ k => XS.iload X6.here hx rfl (hb hby at_42) rfl k) ?_
  show own_Fin _ _ _ _ _ _ _ (T6.setTop (mkF m 44 #[.val (.int p0), .val (.int p1), .val (.int p2), .val (.int p3), .val (.int (own_f1 p1)), .val (.int (own_f1 p3)), .val (.ref b3), .val (.ref b5), .unset, .unset, .unset, .unset, .unset, .unset] [(.int (own_f1 p1)), (.long ((p0.toInt64) * (32 : Int64)))]))
  refine own_go (fun _ k => XS.i2l X6.here hx rfl (hb hby at_44) rfl k) ?_
  show own_Fin _ _ _ _ _ _ _ (T6.setTop (mkF m 45 #[.val (.int p0), .val (.int p1), .val (.int p2), .val (.int p3), .val (.int (own_f1 p1)), .val (.int (own_f1 p3)), .val (.ref b3), .val (.ref b5), .unset, .unset, .unset, .unset, .unset, .unset] [(.long ((own_f1 p1).toInt64)), (.long ((p0.toInt64) * (32 : Int64)))]))
  refine own_go (fun _ k => XS.ladd X6.here hx rfl (hb hby at_45) rfl k) ?_
  show own_Fin _ _ _ _ _ _ _ (T6.setTop (mkF m 46 #[.val (.int p0), .val (.int p1), .val (.int p2), .val (.int p3), .val (.int (own_f1 p1)), .val (.int (own_f1 p3)), .val (.ref b3), .val (.ref b5), .unset, .unset, .unset, .unset, .unset, .unset] [(.long (((p0.toInt64) * (32 : Int64)) + ((own_f1 p1).toInt64)))]))
  refine own_go (fun _ k => XS.lstore X6.here hx rfl (hb hby at_46) rfl (l' := #[.val (.int p0), .val (.int p1), .val (.int p2), .val (.int p3), .val (.int (own_f1 p1)), .val (.int (own_f1 p3)), .val (.ref b3), .val (.ref b5), .val (.long (((p0.toInt64) * (32 : Int64)) + ((own_f1 p1).toInt64))), .second, .unset, .unset, .unset, .unset]) rfl k) ?_
  show own_Fin _ _ _ _ _ _ _ (T6.setTop (mkF m 48 #[.val (.int p0), .val (.int p1), .val (.int p2), .val (.int p3), .val (.int (own_f1 p1)), .val (.int (own_f1 p3)), .val (.ref b3), .val (.ref b5), .val (.long (((p0.toInt64) * (32 : Int64)) + ((own_f1 p1).toInt64))), .second, .unset, .unset, .unset, .unset] []))
  generalize hz7 : (((p0.toInt64) * (32 : Int64)) + ((own_f1 p1).toInt64)) = z7
  show own_Fin _ _ _ _ _ _ _ (T6.setTop (mkF m 48 #[.val (.int p0), .val (.int p1), .val (.int p2), .val (.int p3), .val (.int (own_f1 p1)), .val (.int (own_f1 p3)), .val (.ref b3), .val (.ref b5), .val (.long z7), .second, .unset, .unset, .unset, .unset] []))
  refine own_go (fun _ k => XS.iloadN X6.here hx rfl (hb hby at_48) rfl k) ?_
  show own_Fin _ _ _ _ _ _ _ (T6.setTop (mkF m 49 #[.val (.int p0), .val (.int p1), .val (.int p2), .val (.int p3), .val (.int (own_f1 p1)), .val (.int (own_f1 p3)), .val (.ref b3), .val (.ref b5), .val (.long z7), .second, .unset, .unset, .unset, .unset] [(.int p2)]))
  refine own_go (fun _ k => XS.i2l X6.here hx rfl (hb hby at_49) rfl k) ?_
  show own_Fin _ _ _ _ _ _ _ (T6.setTop (mkF m 50 #[.val (.int p0), .val (.int p1), .val (.int p2), .val (.int p3), .val (.int (own_f1 p1)), .val (.int (own_f1 p3)), .val (.ref b3), .val (.ref b5), .val (.long z7), .second, .unset, .unset, .unset, .unset] [(.long (p2.toInt64))]))
  refine own_go (fun _ k => X6.ldc2Long hx hown (mvT hZ (hw _ (List.mem_of_getElem? (i := 22) rfl))) (g := (mkF m 50 #[.val (.int p0), .val (.int p1), .val (.int p2), .val (.int p3), .val (.int (own_f1 p1)), .val (.int (own_f1 p3)), .val (.ref b3), .val (.ref b5), .val (.long z7), .second, .unset, .unset, .unset, .unset] [(.long (p2.toInt64))])) rfl (hb hby at_50) _ k) ?_
  show own_Fin _ _ _ _ _ _ _ (T6.setTop (mkF m 53 #[.val (.int p0), .val (.int p1), .val (.int p2), .val (.int p3), .val (.int (own_f1 p1)), .val (.int (own_f1 p3)), .val (.ref b3), .val (.ref b5), .val (.long z7), .second, .unset, .unset, .unset, .unset] [(.long (32 : Int64)), (.long (p2.toInt64))]))
  refine own_go (fun _ k => XS.lmul X6.here hx rfl (hb hby at_53) rfl k) ?_
  show own_Fin _ _ _ _ _ _ _ (T6.setTop (mkF m 54 #[.val (.int p0), .val (.int p1), .val (.int p2), .val (.int p3), .val (.int (own_f1 p1)), .val (.int (own_f1 p3)), .val (.ref b3), .val (.ref b5), .val (.long z7), .second, .unset, .unset, .unset, .unset] [(.long ((p2.toInt64) * (32 : Int64)))]))
  refine own_go (fun _ k => XS.iload X6.here hx rfl (hb hby at_54) rfl k) ?_
  show own_Fin _ _ _ _ _ _ _ (T6.setTop (mkF m 56 #[.val (.int p0), .val (.int p1), .val (.int p2), .val (.int p3), .val (.int (own_f1 p1)), .val (.int (own_f1 p3)), .val (.ref b3), .val (.ref b5), .val (.long z7), .second, .unset, .unset, .unset, .unset] [(.int (own_f1 p3)), (.long ((p2.toInt64) * (32 : Int64)))]))
  refine own_go (fun _ k => XS.i2l X6.here hx rfl (hb hby at_56) rfl k) ?_
  show own_Fin _ _ _ _ _ _ _ (T6.setTop (mkF m 57 #[.val (.int p0), .val (.int p1), .val (.int p2), .val (.int p3), .val (.int (own_f1 p1)), .val (.int (own_f1 p3)), .val (.ref b3), .val (.ref b5), .val (.long z7), .second, .unset, .unset, .unset, .unset] [(.long ((own_f1 p3).toInt64)), (.long ((p2.toInt64) * (32 : Int64)))]))
  refine own_go (fun _ k => XS.ladd X6.here hx rfl (hb hby at_57) rfl k) ?_
  show own_Fin _ _ _ _ _ _ _ (T6.setTop (mkF m 58 #[.val (.int p0), .val (.int p1), .val (.int p2), .val (.int p3), .val (.int (own_f1 p1)), .val (.int (own_f1 p3)), .val (.ref b3), .val (.ref b5), .val (.long z7), .second, .unset, .unset, .unset, .unset] [(.long (((p2.toInt64) * (32 : Int64)) + ((own_f1 p3).toInt64)))]))
  refine own_go (fun _ k => XS.lstore X6.here hx rfl (hb hby at_58) rfl (l' := #[.val (.int p0), .val (.int p1), .val (.int p2), .val (.int p3), .val (.int (own_f1 p1)), .val (.int (own_f1 p3)), .val (.ref b3), .val (.ref b5), .val (.long z7), .second, .val (.long (((p2.toInt64) * (32 : Int64)) + ((own_f1 p3).toInt64))), .second, .unset, .unset]) rfl k) ?_
  show own_Fin _ _ _ _ _ _ _ (T6.setTop (mkF m 60 #[.val (.int p0), .val (.int p1), .val (.int p2), .val (.int p3), .val (.int (own_f1 p1)), .val (.int (own_f1 p3)), .val (.ref b3), .val (.ref b5), .val (.long z7), .second, .val (.long (((p2.toInt64) * (32 : Int64)) + ((own_f1 p3).toInt64))), .second, .unset, .unset] []))
  generalize hz8 : (((p2.toInt64) * (32 : Int64)) + ((own_f1 p3).toInt64)) = z8
  show own_Fin _ _ _ _ _ _ _ (T6.setTop (mkF m 60 #[.val (.int p0), .val (.int p1), .val (.int p2), .val (.int p3), .val (.int (own_f1 p1)), .val (.int (own_f1 p3)), .val (.ref b3), .val (.ref b5), .val (.long z7), .second, .val (.long z8), .second, .unset, .unset] []))
  refine own_go (fun _ k => XS.aload X6.here hx rfl (hb hby at_60) rfl rfl k) ?_
  show own_Fin _ _ _ _ _ _ _ (T6.setTop (mkF m 62 #[.val (.int p0), .val (.int p1), .val (.int p2), .val (.int p3), .val (.int (own_f1 p1)), .val (.int (own_f1 p3)), .val (.ref b3), .val (.ref b5), .val (.long z7), .second, .val (.long z8), .second, .unset, .unset] [(.ref b3)]))
  refine own_go (fun _ k => XS.aload X6.here hx rfl (hb hby at_62) rfl rfl k) ?_
  show own_Fin _ _ _ _ _ _ _ (T6.setTop (mkF m 64 #[.val (.int p0), .val (.int p1), .val (.int p2), .val (.int p3), .val (.int (own_f1 p1)), .val (.int (own_f1 p3)), .val (.ref b3), .val (.ref b5), .val (.long z7), .second, .val (.long z8), .second, .unset, .unset] [(.ref b5), (.ref b3)]))
  obtain ⟨cq9, kq9, q9a, q9b, q9c⟩ := isOf hZ rfl E_b3_6
  obtain ⟨_, _, ⟨T9, L9, k9, n9⟩, -, X9, ⟨Lc9, hQ9, l9, y9, z9⟩, st9⟩ := X6.virtualBack hx (y := (⟨"com/example/plain_tariff/plaintariff/RelativeDay", "isAfter", "(Lcom/example/plain_tariff/plaintariff/RelativeDay;)Z"⟩ : MethodName)) (z := (⟨"com/example/plain_tariff/plaintariff/RelativeDay", "isAfter", "(Lcom/example/plain_tariff/plaintariff/RelativeDay;)Z"⟩ : MethodName)) hown (mvT hZ (hw _ (List.mem_of_getElem? (i := 23) rfl))) (mvT hZ (hw _ (List.mem_of_getElem? (i := 24) rfl))) (notFace_of_selects (args := #[]) (mvT hZ (hw _ (List.mem_of_getElem? (i := 26) rfl)))) (mvT hZ (hw _ (List.mem_of_getElem? (i := 26) rfl))) (mvT hZ (hw _ (List.mem_of_getElem? (i := 25) rfl))) (by decide) (backOf (W := 0) (rm5 l Z a0 hw [] b3 b5 p0 (own_f1 p1) p2 (own_f1 p3) T6.heap n0 Z6 F_monthOffset_b3_6 F_day_b3_6 F_monthOffset_b5_6 F_day_b5_6) hZ (hw _ (List.mem_of_getElem? (i := 27) rfl)) (hw _ (List.mem_of_getElem? (i := 6) rfl)) (by decide) (by decide)) q9a q9c (g := (mkF m 64 #[.val (.int p0), .val (.int p1), .val (.int p2), .val (.int p3), .val (.int (own_f1 p1)), .val (.int (own_f1 p3)), .val (.ref b3), .val (.ref b5), .val (.long z7), .second, .val (.long z8), .second, .unset, .unset] [(.ref b5), (.ref b3)])) rfl (by rw [hml]; rfl) (Steps.refl _) (argsL := [(.ref b5)]) (rest := []) (lenOf own_pd60 rfl) rfl (by show 2 * 0 + _ ≤ _; exact Nat.le_of_eq rfl) (hb hby at_64) (fun _ _ => ⟨rfl, rfl, (by decide : 2 + 0 ≤ _), (by decide : 4 + 0 ≤ _)⟩)
  dsimp only [Pt.U, Pt.locs, Pt.cells, Pt.slots] at X9 l9 y9 z9 st9 hQ9
  subst l9 y9 z9
  obtain ⟨rfl, N9q, e9⟩ := hQ9
  have N9 := Fr.app N6 N9q
  refine own_go (fun tg k => st9.trans k) ?_
  show own_Fin _ _ _ _ _ _ _ (T9.setTop (mkF m 67 #[.val (.int p0), .val (.int p1), .val (.int p2), .val (.int p3), .val (.int (own_f1 p1)), .val (.int (own_f1 p3)), .val (.ref b3), .val (.ref b5), .val (.long z7), .second, .val (.long z8), .second, .unset, .unset] [(.int (own_f5 p0 (own_f1 p1) p2 (own_f1 p3)))]))
  refine own_go (fun _ k => XS.istore X9.here hx rfl (hb hby at_67) rfl (l' := #[.val (.int p0), .val (.int p1), .val (.int p2), .val (.int p3), .val (.int (own_f1 p1)), .val (.int (own_f1 p3)), .val (.ref b3), .val (.ref b5), .val (.long z7), .second, .val (.long z8), .second, .val (.int (own_f5 p0 (own_f1 p1) p2 (own_f1 p3))), .unset]) rfl k) ?_
  show own_Fin _ _ _ _ _ _ _ (T9.setTop (mkF m 69 #[.val (.int p0), .val (.int p1), .val (.int p2), .val (.int p3), .val (.int (own_f1 p1)), .val (.int (own_f1 p3)), .val (.ref b3), .val (.ref b5), .val (.long z7), .second, .val (.long z8), .second, .val (.int (own_f5 p0 (own_f1 p1) p2 (own_f1 p3))), .unset] []))
  generalize hz10 : (own_f5 p0 (own_f1 p1) p2 (own_f1 p3)) = z10
  show own_Fin _ _ _ _ _ _ _ (T9.setTop (mkF m 69 #[.val (.int p0), .val (.int p1), .val (.int p2), .val (.int p3), .val (.int (own_f1 p1)), .val (.int (own_f1 p3)), .val (.ref b3), .val (.ref b5), .val (.long z7), .second, .val (.long z8), .second, .val (.int z10), .unset] []))
  refine own_go (fun _ k => XS.aload X9.here hx rfl (hb hby at_69) rfl rfl k) ?_
  show own_Fin _ _ _ _ _ _ _ (T9.setTop (mkF m 71 #[.val (.int p0), .val (.int p1), .val (.int p2), .val (.int p3), .val (.int (own_f1 p1)), .val (.int (own_f1 p3)), .val (.ref b3), .val (.ref b5), .val (.long z7), .second, .val (.long z8), .second, .val (.int z10), .unset] [(.ref b5)]))
  refine own_go (fun _ k => XS.aload X9.here hx rfl (hb hby at_71) rfl rfl k) ?_
  show own_Fin _ _ _ _ _ _ _ (T9.setTop (mkF m 73 #[.val (.int p0), .val (.int p1), .val (.int p2), .val (.int p3), .val (.int (own_f1 p1)), .val (.int (own_f1 p3)), .val (.ref b3), .val (.ref b5), .val (.long z7), .second, .val (.long z8), .second, .val (.int z10), .unset] [(.ref b3), (.ref b5)]))
  obtain ⟨cq11, kq11, q11a, q11b, q11c⟩ := isOf hZ e9 E_b5_6
  obtain ⟨_, _, ⟨T11, L11, k11, n11⟩, -, X11, ⟨Lc11, hQ11, l11, y11, z11⟩, st11⟩ := X9.virtualBack hx (y := (⟨"com/example/plain_tariff/plaintariff/RelativeDay", "isAfter", "(Lcom/example/plain_tariff/plaintariff/RelativeDay;)Z"⟩ : MethodName)) (z := (⟨"com/example/plain_tariff/plaintariff/RelativeDay", "isAfter", "(Lcom/example/plain_tariff/plaintariff/RelativeDay;)Z"⟩ : MethodName)) hown (mvT hZ (hw _ (List.mem_of_getElem? (i := 23) rfl))) (mvT hZ (hw _ (List.mem_of_getElem? (i := 24) rfl))) (notFace_of_selects (args := #[]) (mvT hZ (hw _ (List.mem_of_getElem? (i := 26) rfl)))) (mvT hZ (hw _ (List.mem_of_getElem? (i := 26) rfl))) (mvT hZ (hw _ (List.mem_of_getElem? (i := 25) rfl))) (by decide) (backOf (W := 0) (rm5 l Z a0 hw [] b5 b3 p2 (own_f1 p3) p0 (own_f1 p1) T6.heap n0 Z6 F_monthOffset_b5_6 F_day_b5_6 F_monthOffset_b3_6 F_day_b3_6) hZ (hw _ (List.mem_of_getElem? (i := 27) rfl)) (hw _ (List.mem_of_getElem? (i := 6) rfl)) (by decide) (by decide)) q11a q11c (g := (mkF m 73 #[.val (.int p0), .val (.int p1), .val (.int p2), .val (.int p3), .val (.int (own_f1 p1)), .val (.int (own_f1 p3)), .val (.ref b3), .val (.ref b5), .val (.long z7), .second, .val (.long z8), .second, .val (.int z10), .unset] [(.ref b3), (.ref b5)])) rfl (by rw [hml]; rfl) (Steps.refl _) (argsL := [(.ref b3)]) (rest := []) (lenOf own_pd60 rfl) rfl (by show 2 * 0 + _ ≤ _; exact Nat.le_of_eq rfl) (hb hby at_73) (fun _ _ => ⟨rfl, e9, (by decide : 2 + 0 ≤ _), (by decide : 4 + 0 ≤ _)⟩)
  dsimp only [Pt.U, Pt.locs, Pt.cells, Pt.slots] at X11 l11 y11 z11 st11 hQ11
  subst l11 y11 z11
  obtain ⟨rfl, N11q, e11⟩ := hQ11
  have N11 := Fr.app N9 N11q
  refine own_go (fun tg k => st11.trans k) ?_
  show own_Fin _ _ _ _ _ _ _ (T11.setTop (mkF m 76 #[.val (.int p0), .val (.int p1), .val (.int p2), .val (.int p3), .val (.int (own_f1 p1)), .val (.int (own_f1 p3)), .val (.ref b3), .val (.ref b5), .val (.long z7), .second, .val (.long z8), .second, .val (.int z10), .unset] [(.int (own_f5 p2 (own_f1 p3) p0 (own_f1 p1)))]))
  refine own_go (fun _ k => XS.istore X11.here hx rfl (hb hby at_76) rfl (l' := #[.val (.int p0), .val (.int p1), .val (.int p2), .val (.int p3), .val (.int (own_f1 p1)), .val (.int (own_f1 p3)), .val (.ref b3), .val (.ref b5), .val (.long z7), .second, .val (.long z8), .second, .val (.int z10), .val (.int (own_f5 p2 (own_f1 p3) p0 (own_f1 p1)))]) rfl k) ?_
  show own_Fin _ _ _ _ _ _ _ (T11.setTop (mkF m 78 #[.val (.int p0), .val (.int p1), .val (.int p2), .val (.int p3), .val (.int (own_f1 p1)), .val (.int (own_f1 p3)), .val (.ref b3), .val (.ref b5), .val (.long z7), .second, .val (.long z8), .second, .val (.int z10), .val (.int (own_f5 p2 (own_f1 p3) p0 (own_f1 p1)))] []))
  generalize hz12 : (own_f5 p2 (own_f1 p3) p0 (own_f1 p1)) = z12
  show own_Fin _ _ _ _ _ _ _ (T11.setTop (mkF m 78 #[.val (.int p0), .val (.int p1), .val (.int p2), .val (.int p3), .val (.int (own_f1 p1)), .val (.int (own_f1 p3)), .val (.ref b3), .val (.ref b5), .val (.long z7), .second, .val (.long z8), .second, .val (.int z10), .val (.int z12)] []))
  refine own_go (fun _ k => XS.iload X11.here hx rfl (hb hby at_78) rfl k) ?_
  show own_Fin _ _ _ _ _ _ _ (T11.setTop (mkF m 80 #[.val (.int p0), .val (.int p1), .val (.int p2), .val (.int p3), .val (.int (own_f1 p1)), .val (.int (own_f1 p3)), .val (.ref b3), .val (.ref b5), .val (.long z7), .second, .val (.long z8), .second, .val (.int z10), .val (.int z12)] [(.int z10)]))
  refine own_go (fun _ k => XS.lload X11.here hx rfl (hb hby at_80) rfl k) ?_
  show own_Fin _ _ _ _ _ _ _ (T11.setTop (mkF m 82 #[.val (.int p0), .val (.int p1), .val (.int p2), .val (.int p3), .val (.int (own_f1 p1)), .val (.int (own_f1 p3)), .val (.ref b3), .val (.ref b5), .val (.long z7), .second, .val (.long z8), .second, .val (.int z10), .val (.int z12)] [(.long z7), (.int z10)]))
  refine own_go (fun _ k => XS.lload X11.here hx rfl (hb hby at_82) rfl k) ?_
  show own_Fin _ _ _ _ _ _ _ (T11.setTop (mkF m 84 #[.val (.int p0), .val (.int p1), .val (.int p2), .val (.int p3), .val (.int (own_f1 p1)), .val (.int (own_f1 p3)), .val (.ref b3), .val (.ref b5), .val (.long z7), .second, .val (.long z8), .second, .val (.int z10), .val (.int z12)] [(.long z8), (.long z7), (.int z10)]))
  refine own_go (fun _ k => XS.lcmp X11.here hx rfl (hb hby at_84) rfl k) ?_
  show own_Fin _ _ _ _ _ _ _ (T11.setTop (mkF m 85 #[.val (.int p0), .val (.int p1), .val (.int p2), .val (.int p3), .val (.int (own_f1 p1)), .val (.int (own_f1 p3)), .val (.ref b3), .val (.ref b5), .val (.long z7), .second, .val (.long z8), .second, .val (.int z10), .val (.int z12)] [(.int (lcmpW z7 z8)), (.int z10)]))
  have hk14 : ∀ (T' : State) (L' : List Loc), Stand p l e room_1 s m #[(.int p0), (.int p1), (.int p2), (.int p3)] below meth c T' L' 2 4 → Fr n0 L' → T'.heap = T6.heap → own_Fin p.tables e below s (own_QL (some (.int (own_f0 p0 p1 p2 p3))) n0) 16 128 (T'.setTop (mkF m 93 #[.val (.int p0), .val (.int p1), .val (.int p2), .val (.int p3), .val (.int (own_f1 p1)), .val (.int (own_f1 p3)), .val (.ref b3), .val (.ref b5), .val (.long z7), .second, .val (.long z8), .second, .val (.int z10), .val (.int z12)] [(.int (if z8 < z7 then (1 : Int32) else (0 : Int32))), (.int z10)])) := by
    intro T15 L15 X15 N15 e15
    generalize hz16 : (if z8 < z7 then (1 : Int32) else (0 : Int32)) = z16
    show own_Fin _ _ _ _ _ _ _ (T15.setTop (mkF m 93 #[.val (.int p0), .val (.int p1), .val (.int p2), .val (.int p3), .val (.int (own_f1 p1)), .val (.int (own_f1 p3)), .val (.ref b3), .val (.ref b5), .val (.long z7), .second, .val (.long z8), .second, .val (.int z10), .val (.int z12)] [(.int z16), (.int z10)]))
    by_cases hc17 : z10 = z16
    · refine own_go (fun _ k => XS.icmpNo X15.here hx rfl (hb hby at_93) rfl (teq hc17).2 k) ?_
      show own_Fin _ _ _ _ _ _ _ (T15.setTop (mkF m 96 #[.val (.int p0), .val (.int p1), .val (.int p2), .val (.int p3), .val (.int (own_f1 p1)), .val (.int (own_f1 p3)), .val (.ref b3), .val (.ref b5), .val (.long z7), .second, .val (.long z8), .second, .val (.int z10), .val (.int z12)] []))
      refine own_go (fun _ k => XS.iload X15.here hx rfl (hb hby at_96) rfl k) ?_
      show own_Fin _ _ _ _ _ _ _ (T15.setTop (mkF m 98 #[.val (.int p0), .val (.int p1), .val (.int p2), .val (.int p3), .val (.int (own_f1 p1)), .val (.int (own_f1 p3)), .val (.ref b3), .val (.ref b5), .val (.long z7), .second, .val (.long z8), .second, .val (.int z10), .val (.int z12)] [(.int z12)]))
      refine own_go (fun _ k => XS.lload X15.here hx rfl (hb hby at_98) rfl k) ?_
      show own_Fin _ _ _ _ _ _ _ (T15.setTop (mkF m 100 #[.val (.int p0), .val (.int p1), .val (.int p2), .val (.int p3), .val (.int (own_f1 p1)), .val (.int (own_f1 p3)), .val (.ref b3), .val (.ref b5), .val (.long z7), .second, .val (.long z8), .second, .val (.int z10), .val (.int z12)] [(.long z8), (.int z12)]))
      refine own_go (fun _ k => XS.lload X15.here hx rfl (hb hby at_100) rfl k) ?_
      show own_Fin _ _ _ _ _ _ _ (T15.setTop (mkF m 102 #[.val (.int p0), .val (.int p1), .val (.int p2), .val (.int p3), .val (.int (own_f1 p1)), .val (.int (own_f1 p3)), .val (.ref b3), .val (.ref b5), .val (.long z7), .second, .val (.long z8), .second, .val (.int z10), .val (.int z12)] [(.long z7), (.long z8), (.int z12)]))
      refine own_go (fun _ k => XS.lcmp X15.here hx rfl (hb hby at_102) rfl k) ?_
      show own_Fin _ _ _ _ _ _ _ (T15.setTop (mkF m 103 #[.val (.int p0), .val (.int p1), .val (.int p2), .val (.int p3), .val (.int (own_f1 p1)), .val (.int (own_f1 p3)), .val (.ref b3), .val (.ref b5), .val (.long z7), .second, .val (.long z8), .second, .val (.int z10), .val (.int z12)] [(.int (lcmpW z8 z7)), (.int z12)]))
      have hk19 : ∀ (T' : State) (L' : List Loc), Stand p l e room_1 s m #[(.int p0), (.int p1), (.int p2), (.int p3)] below meth c T' L' 2 4 → Fr n0 L' → T'.heap = T6.heap → own_Fin p.tables e below s (own_QL (some (.int (own_f0 p0 p1 p2 p3))) n0) 16 128 (T'.setTop (mkF m 111 #[.val (.int p0), .val (.int p1), .val (.int p2), .val (.int p3), .val (.int (own_f1 p1)), .val (.int (own_f1 p3)), .val (.ref b3), .val (.ref b5), .val (.long z7), .second, .val (.long z8), .second, .val (.int z10), .val (.int z12)] [(.int (if z7 < z8 then (1 : Int32) else (0 : Int32))), (.int z12)])) := by
        intro T20 L20 X20 N20 e20
        generalize hz21 : (if z7 < z8 then (1 : Int32) else (0 : Int32)) = z21
        show own_Fin _ _ _ _ _ _ _ (T20.setTop (mkF m 111 #[.val (.int p0), .val (.int p1), .val (.int p2), .val (.int p3), .val (.int (own_f1 p1)), .val (.int (own_f1 p3)), .val (.ref b3), .val (.ref b5), .val (.long z7), .second, .val (.long z8), .second, .val (.int z10), .val (.int z12)] [(.int z21), (.int z12)]))
        by_cases hc22 : z12 = z21
        · refine own_go (fun _ k => XS.icmpNo X20.here hx rfl (hb hby at_111) rfl (teq hc22).2 k) ?_
          show own_Fin _ _ _ _ _ _ _ (T20.setTop (mkF m 114 #[.val (.int p0), .val (.int p1), .val (.int p2), .val (.int p3), .val (.int (own_f1 p1)), .val (.int (own_f1 p3)), .val (.ref b3), .val (.ref b5), .val (.long z7), .second, .val (.long z8), .second, .val (.int z10), .val (.int z12)] []))
          refine own_go (fun _ k => XS.iconst X20.here hx rfl (hb hby at_114) k) ?_
          show own_Fin _ _ _ _ _ _ _ (T20.setTop (mkF m 115 #[.val (.int p0), .val (.int p1), .val (.int p2), .val (.int p3), .val (.int (own_f1 p1)), .val (.int (own_f1 p3)), .val (.ref b3), .val (.ref b5), .val (.long z7), .second, .val (.long z8), .second, .val (.int z10), .val (.int z12)] [(.int (1 : Int32))]))
          refine own_go (fun _ k => XS.goto X20.here hx rfl (pc0 := 115) (pc' := 119) rfl (hb hby at_115) (by decide) (by decide) k) ?_
          show own_Fin _ _ _ _ _ _ _ (T20.setTop (mkF m 119 #[.val (.int p0), .val (.int p1), .val (.int p2), .val (.int p3), .val (.int (own_f1 p1)), .val (.int (own_f1 p3)), .val (.ref b3), .val (.ref b5), .val (.long z7), .second, .val (.long z8), .second, .val (.int z10), .val (.int z12)] [(.int (1 : Int32))]))
          refine own_ret X20 hx hlk Bd.returns rfl (Or.inl ⟨rfl, by simp, _, rfl⟩) (hb hby at_119) (Nat.le_of_ble_eq_true rfl) (Nat.le_of_ble_eq_true rfl) ?_
          try subst hz21
          try subst hz16
          try subst hz12
          try subst hz10
          try subst hz8
          try subst hz7
          refine ⟨?_, N20, trivial⟩
          first | rfl | (simp only [own_f0, if_pos hc17, if_pos hc22]; done) | (simp only [own_f0, if_pos hc17, if_pos hc22]; rfl)
        · refine own_go (fun _ k => XS.icmpYes X20.here hx rfl (pc0 := 111) (pc' := 118) rfl (hb hby at_111) rfl (feq hc22).2 (by decide) (by decide) k) ?_
          show own_Fin _ _ _ _ _ _ _ (T20.setTop (mkF m 118 #[.val (.int p0), .val (.int p1), .val (.int p2), .val (.int p3), .val (.int (own_f1 p1)), .val (.int (own_f1 p3)), .val (.ref b3), .val (.ref b5), .val (.long z7), .second, .val (.long z8), .second, .val (.int z10), .val (.int z12)] []))
          refine own_go (fun _ k => XS.iconst X20.here hx rfl (hb hby at_118) k) ?_
          show own_Fin _ _ _ _ _ _ _ (T20.setTop (mkF m 119 #[.val (.int p0), .val (.int p1), .val (.int p2), .val (.int p3), .val (.int (own_f1 p1)), .val (.int (own_f1 p3)), .val (.ref b3), .val (.ref b5), .val (.long z7), .second, .val (.long z8), .second, .val (.int z10), .val (.int z12)] [(.int (0 : Int32))]))
          refine own_ret X20 hx hlk Bd.returns rfl (Or.inl ⟨rfl, by simp, _, rfl⟩) (hb hby at_119) (Nat.le_of_ble_eq_true rfl) (Nat.le_of_ble_eq_true rfl) ?_
          try subst hz21
          try subst hz16
          try subst hz12
          try subst hz10
          try subst hz8
          try subst hz7
          refine ⟨?_, N20, trivial⟩
          first | rfl | (simp only [own_f0, if_pos hc17, if_neg hc22]; done) | (simp only [own_f0, if_pos hc17, if_neg hc22]; rfl)
      by_cases hc18 : z7 < z8
      · refine own_go (fun _ k => XS.ifNo X15.here hx rfl (hb hby at_103) rfl ((if0 _ _).trans (tlt ((lw_gt _ _).mpr hc18)).2.2.2) k) ?_
        show own_Fin _ _ _ _ _ _ _ (T15.setTop (mkF m 106 #[.val (.int p0), .val (.int p1), .val (.int p2), .val (.int p3), .val (.int (own_f1 p1)), .val (.int (own_f1 p3)), .val (.ref b3), .val (.ref b5), .val (.long z7), .second, .val (.long z8), .second, .val (.int z10), .val (.int z12)] [(.int z12)]))
        refine own_go (fun _ k => XS.iconst X15.here hx rfl (hb hby at_106) k) ?_
        show own_Fin _ _ _ _ _ _ _ (T15.setTop (mkF m 107 #[.val (.int p0), .val (.int p1), .val (.int p2), .val (.int p3), .val (.int (own_f1 p1)), .val (.int (own_f1 p3)), .val (.ref b3), .val (.ref b5), .val (.long z7), .second, .val (.long z8), .second, .val (.int z10), .val (.int z12)] [(.int (1 : Int32)), (.int z12)]))
        refine own_go (fun _ k => XS.goto X15.here hx rfl (pc0 := 107) (pc' := 111) rfl (hb hby at_107) (by decide) (by decide) k) ?_
        show own_Fin _ _ _ _ _ _ _ (T15.setTop (mkF m 111 #[.val (.int p0), .val (.int p1), .val (.int p2), .val (.int p3), .val (.int (own_f1 p1)), .val (.int (own_f1 p3)), .val (.ref b3), .val (.ref b5), .val (.long z7), .second, .val (.long z8), .second, .val (.int z10), .val (.int z12)] [(.int (1 : Int32)), (.int z12)]))
        have kj := hk19 T15 _ (own_mono X15 (by decide) (by decide)) N15 e15
        try subst hz16
        try subst hz12
        try subst hz10
        try subst hz8
        try subst hz7
        simpa only [if_pos hc17, if_pos hc18] using kj
      · refine own_go (fun _ k => XS.ifYes X15.here hx rfl (pc0 := 103) (pc' := 110) rfl (hb hby at_103) rfl ((if0 _ _).trans (flt (mt (lw_gt _ _).mp hc18)).2.2.2) (by decide) (by decide) k) ?_
        show own_Fin _ _ _ _ _ _ _ (T15.setTop (mkF m 110 #[.val (.int p0), .val (.int p1), .val (.int p2), .val (.int p3), .val (.int (own_f1 p1)), .val (.int (own_f1 p3)), .val (.ref b3), .val (.ref b5), .val (.long z7), .second, .val (.long z8), .second, .val (.int z10), .val (.int z12)] [(.int z12)]))
        refine own_go (fun _ k => XS.iconst X15.here hx rfl (hb hby at_110) k) ?_
        show own_Fin _ _ _ _ _ _ _ (T15.setTop (mkF m 111 #[.val (.int p0), .val (.int p1), .val (.int p2), .val (.int p3), .val (.int (own_f1 p1)), .val (.int (own_f1 p3)), .val (.ref b3), .val (.ref b5), .val (.long z7), .second, .val (.long z8), .second, .val (.int z10), .val (.int z12)] [(.int (0 : Int32)), (.int z12)]))
        have kj := hk19 T15 _ (own_mono X15 (by decide) (by decide)) N15 e15
        try subst hz16
        try subst hz12
        try subst hz10
        try subst hz8
        try subst hz7
        simpa only [if_pos hc17, if_neg hc18] using kj
    · refine own_go (fun _ k => XS.icmpYes X15.here hx rfl (pc0 := 93) (pc' := 118) rfl (hb hby at_93) rfl (feq hc17).2 (by decide) (by decide) k) ?_
      show own_Fin _ _ _ _ _ _ _ (T15.setTop (mkF m 118 #[.val (.int p0), .val (.int p1), .val (.int p2), .val (.int p3), .val (.int (own_f1 p1)), .val (.int (own_f1 p3)), .val (.ref b3), .val (.ref b5), .val (.long z7), .second, .val (.long z8), .second, .val (.int z10), .val (.int z12)] []))
      refine own_go (fun _ k => XS.iconst X15.here hx rfl (hb hby at_118) k) ?_
      show own_Fin _ _ _ _ _ _ _ (T15.setTop (mkF m 119 #[.val (.int p0), .val (.int p1), .val (.int p2), .val (.int p3), .val (.int (own_f1 p1)), .val (.int (own_f1 p3)), .val (.ref b3), .val (.ref b5), .val (.long z7), .second, .val (.long z8), .second, .val (.int z10), .val (.int z12)] [(.int (0 : Int32))]))
      refine own_ret X15 hx hlk Bd.returns rfl (Or.inl ⟨rfl, by simp, _, rfl⟩) (hb hby at_119) (Nat.le_of_ble_eq_true rfl) (Nat.le_of_ble_eq_true rfl) ?_
      try subst hz16
      try subst hz12
      try subst hz10
      try subst hz8
      try subst hz7
      refine ⟨?_, N15, trivial⟩
      first | rfl | (simp only [own_f0, if_neg hc17]; done) | (simp only [own_f0, if_neg hc17]; rfl)
  by_cases hc13 : z8 < z7
  · refine own_go (fun _ k => XS.ifNo X11.here hx rfl (hb hby at_85) rfl ((if0 _ _).trans (tlt ((lw_gt _ _).mpr hc13)).2.2.2) k) ?_
    show own_Fin _ _ _ _ _ _ _ (T11.setTop (mkF m 88 #[.val (.int p0), .val (.int p1), .val (.int p2), .val (.int p3), .val (.int (own_f1 p1)), .val (.int (own_f1 p3)), .val (.ref b3), .val (.ref b5), .val (.long z7), .second, .val (.long z8), .second, .val (.int z10), .val (.int z12)] [(.int z10)]))
    refine own_go (fun _ k => XS.iconst X11.here hx rfl (hb hby at_88) k) ?_
    show own_Fin _ _ _ _ _ _ _ (T11.setTop (mkF m 89 #[.val (.int p0), .val (.int p1), .val (.int p2), .val (.int p3), .val (.int (own_f1 p1)), .val (.int (own_f1 p3)), .val (.ref b3), .val (.ref b5), .val (.long z7), .second, .val (.long z8), .second, .val (.int z10), .val (.int z12)] [(.int (1 : Int32)), (.int z10)]))
    refine own_go (fun _ k => XS.goto X11.here hx rfl (pc0 := 89) (pc' := 93) rfl (hb hby at_89) (by decide) (by decide) k) ?_
    show own_Fin _ _ _ _ _ _ _ (T11.setTop (mkF m 93 #[.val (.int p0), .val (.int p1), .val (.int p2), .val (.int p3), .val (.int (own_f1 p1)), .val (.int (own_f1 p3)), .val (.ref b3), .val (.ref b5), .val (.long z7), .second, .val (.long z8), .second, .val (.int z10), .val (.int z12)] [(.int (1 : Int32)), (.int z10)]))
    have kj := hk14 T11 _ (own_mono X11 (by decide) (by decide)) N11 e11
    try subst hz12
    try subst hz10
    try subst hz8
    try subst hz7
    simpa only [if_pos hc13] using kj
  · refine own_go (fun _ k => XS.ifYes X11.here hx rfl (pc0 := 85) (pc' := 92) rfl (hb hby at_85) rfl ((if0 _ _).trans (flt (mt (lw_gt _ _).mp hc13)).2.2.2) (by decide) (by decide) k) ?_
    show own_Fin _ _ _ _ _ _ _ (T11.setTop (mkF m 92 #[.val (.int p0), .val (.int p1), .val (.int p2), .val (.int p3), .val (.int (own_f1 p1)), .val (.int (own_f1 p3)), .val (.ref b3), .val (.ref b5), .val (.long z7), .second, .val (.long z8), .second, .val (.int z10), .val (.int z12)] [(.int z10)]))
    refine own_go (fun _ k => XS.iconst X11.here hx rfl (hb hby at_92) k) ?_
    show own_Fin _ _ _ _ _ _ _ (T11.setTop (mkF m 93 #[.val (.int p0), .val (.int p1), .val (.int p2), .val (.int p3), .val (.int (own_f1 p1)), .val (.int (own_f1 p3)), .val (.ref b3), .val (.ref b5), .val (.long z7), .second, .val (.long z8), .second, .val (.int z10), .val (.int z12)] [(.int (0 : Int32)), (.int z10)]))
    have kj := hk14 T11 _ (own_mono X11 (by decide) (by decide)) N11 e11
    try subst hz12
    try subst hz10
    try subst hz8
    try subst hz7
    simpa only [if_neg hc13] using kj
theorem own_key (m1 d1 m2 d2 : Int32) (h1 : 0 ≤ d1.toInt ∧ d1.toInt < 32) (h2 : 0 ≤ d2.toInt ∧ d2.toInt < 32) :
    own_f5 m1 d1 m2 d2 = (if (m2.toInt64 * 32 + d2.toInt64) < (m1.toInt64 * 32 + d1.toInt64) then (1 : Int32) else (0 : Int32)) := by
  have a1 := c_i2l m1; have a2 := c_i2l d1; have a3 := c_i2l m2; have a4 := c_i2l d2
  have r1 := rng32 m1; have r2 := rng32 m2
  have k : (32 : Int64).toInt = 32 := by decide
  have b1 := c_lmul m1.toInt64 32; have b2 := c_lmul m2.toInt64 32
  have s1 := rng64 (m1.toInt64 * 32); have s2 := rng64 (m2.toInt64 * 32)
  have c1 := c_ladd (m1.toInt64 * 32) d1.toInt64; have c2 := c_ladd (m2.toInt64 * 32) d2.toInt64
  have t1 := rng64 (m1.toInt64 * 32 + d1.toInt64); have t2 := rng64 (m2.toInt64 * 32 + d2.toInt64)
  rw [k] at b1 b2
  simp only [own_f5, Int32.lt_iff_toInt_lt, Int64.lt_iff_toInt_lt, ← Int32.toInt_inj]
  repeat' split
  all_goals first | rfl | omega
theorem own_dr (x : Int32) : 0 ≤ (own_f1 x).toInt ∧ (own_f1 x).toInt < 32 := by
  have k1 : (1 : Int32).toInt = 1 := by decide
  have k28 : (28 : Int32).toInt = 28 := by decide
  rcases own_day x with ⟨h1, h2⟩ | h
  · rw [Int32.lt_iff_toInt_lt, k1] at h1
    rw [Int32.lt_iff_toInt_lt, k28] at h2
    omega
  · rw [h]; decide
theorem own_plain (p0 p1 p2 p3 : Int32) : own_f0 p0 p1 p2 p3 = 1 := by
  simp only [own_f0, own_key _ _ _ _ (own_dr p1) (own_dr p3), own_key _ _ _ _ (own_dr p3) (own_dr p1)]
  simp
set_option maxRecDepth 65536 in
set_option maxHeartbeats 40000000 in
theorem comes_1 {Post : Tables → Env → Array Value → State → Outcome → State → Prop} (hpost : ∀ tb e args s v u, (limb_1_1.after args s (.returned v) u = true ∧ limb_1_2.after args s (.returned v) u = true ∧ True) → FrameEnd s (.returned v) u (Jvm.fieldLocs frame_1_writes args s ++ Jvm.arrayLocs frame_1_arrays args s ++ Jvm.staticLocs frame_1_statics s) 16 128 → Post tb e args s (.returned v) u) :
    ArmFor flags0 classFile x code maxLocals ret World_1 tables_1 room_1 Calls_1 rest_1 Pre_1 Post := by
  intro l hfl _ _ p e ha hc hk s m args below hf hA hF happ hP
  obtain ⟨hcalls, hrest, hpre⟩ := hP
  obtain ⟨-, -, -, hnamed, -, -, -, hat⟩ := (Spec.applies_iff hf).mp happ
  obtain ⟨hg, hn⟩ := and_e (Cond.before_iff.mp (show (Jvm.Cond.and given_1 narrow_1).before args s = true from hpre))
  obtain ⟨g1, g2⟩ := and_e hg
  obtain ⟨g3, g4⟩ := and_e g2
  obtain ⟨g5, g6⟩ := and_e g4
  obtain ⟨g7, g8⟩ := and_e g6
  obtain ⟨w0, w1, w2, w3, rfl⟩ : ∃ w0 w1 w2 w3 : Value, args = #[w0, w1, w2, w3] := by
    have hs : args.size = 4 := by simpa [Cond.value, given_1] using g1
    obtain ⟨L⟩ := args
    match L, hs with
    | [w0, w1, w2, w3], _ => exact ⟨w0, w1, w2, w3, rfl⟩
  have hw := fun d (hd : d ∈ tables_1) => atoms_spec (ws := Jvm.Cond.code x code maxLocals ret :: tables_1) hat d (List.mem_cons_of_mem _ hd)
  have hfit : Fit s := fun {y c} hc i hi => by
    obtain ⟨ha, rfl⟩ := Array.getElem?_eq_some_iff.mp hc
    have q := List.all_eq_true.mp ((Array.all_eq_true_iff_forall_mem.mp hF) _ (Array.getElem_mem ha)) i (List.mem_range.mpr hi)
    simpa [Array.getElem?_eq_getElem hi] using q
  obtain ⟨i0, ei0⟩ := is_v g3
  obtain rfl : w0 = (.int i0) := Option.some.inj ei0
  obtain ⟨i1, ei1⟩ := is_v g5
  obtain rfl : w1 = (.int i1) := Option.some.inj ei1
  obtain ⟨i2, ei2⟩ := is_v g7
  obtain rfl : w2 = (.int i2) := Option.some.inj ei2
  obtain ⟨i3, ei3⟩ := is_v g8
  obtain rfl : w3 = (.int i3) := Option.some.inj ei3
  obtain ⟨n, o, h1, h2, h3, _, L, rfl, ⟨rfl, N, hrest'⟩, hq⟩ := rm0 l s _ hw tables_1 i0 i1 i2 i3 s.heap s.heap.size (Nat.le_refl _) p e ha hc hk s m _ below hf ((Spec.applies_iff_loose hf).mp happ).1 ⟨rfl, State.Warmed39.refl s, rfl⟩ trivial
  refine ⟨n, _, h1, h2, h3, hpost _ _ _ _ _ _ ⟨Cond.after_iff.mpr rfl, Cond.after_iff.mpr (eq_i res_at (Term.int_eval (1)) (congrArg Value.int (own_plain i0 i1 i2 i3))), trivial⟩ ⟨hq.1, hq.2.1, (hq.2.2.sift fun y hy => Or.inr (N y hy)).mono (by decide) (by decide)⟩⟩
theorem main_1_1 : Claimed_1_1 := comes_1 fun _ _ _ _ _ _ h hF => ⟨h.1, hF⟩
theorem main_1_2 : Claimed_1_2 := comes_1 fun _ _ _ _ _ _ h hF => ⟨h.2.1, hF⟩
end Jvm.Pilot.@@N@@
namespace Jvm.Pilot.@@N@@
open Jvm Jvm.ClassFile Sem Op Lib Jvm.Free Jvm.Stand Jvm.Pilot.@@N@@.Jvm.D
/-! MADE BY PROGRAM (witnessworld.py) out of the Statement's table words and the real class files: 10 classes; the members and pool entries that the words name. The judged class is class 1, her method 2. -/
namespace start1
open Jvm.ClassFile
def u (s : String) : CpInfo := .utf8 (stringToUtf16 s)
/-- a pool by its gaps: so many unusable entries, then the entry; so many at the end -/
def gap : Nat → List CpInfo → List CpInfo
  | 0, r => r
  | n + 1, r => .unusable :: gap n r
def poolList (es : List (Nat × CpInfo)) (last : Nat) : List CpInfo := es.foldr (fun e r => gap e.1 (e.2 :: r)) (gap last [])
def pool (es : List (Nat × CpInfo)) (last : Nat) : Array CpInfo := ⟨poolList es last⟩
def fileOf (pool : Array CpInfo) (this : Nat) (attrs : Array Attribute := #[]) (ms : Array MethodInfo := #[]) (fl : Nat := 33) (sup : Nat := 0) (ifs : Array Nat := #[]) (fds : Array FieldInfo := #[]) : ClassFile where
  minorVersion := 0
  majorVersion := 65
  constantPool := pool
  accessFlags := fl
  thisClass := this
  superClass := sup
  interfaces := ifs
  fields := fds
  methods := ms
  attributes := attrs
def plain (name : String) (sup : Option ClassId) : Class where
  name := name
  kind := .ordinary
  loader := none
  accessFlags := 33
  super := sup
  interfaces := #[]
  cf := none
  fields := #[]
  methods := #[]
  instanceTypes := #[]
  staticTypes := #[]
  resolved := #[]
  callSites := []
  init := .initialized
  statics := none
  mirror := none

def pool0 : Array CpInfo := pool [(5, u "<init>"), (0, u "()V"), (1, .class_ 10), (1, u "java/lang/Object")] 113

def k0c0 : Code := { maxStack := 0, maxLocals := 1, code := object_method_1_code, exceptionTable := #[], attributes := #[] }
def k0m0 : Method := { name := "<init>", desc := "()V", sig := { parameters := [], returnType := none }, accessFlags := 1, code := some k0c0 }
/-- java/lang/Object -/
def k0 : Class := { plain "java/lang/Object" none with
  accessFlags := 33
  interfaces := #[]
  cf := some (fileOf pool0 8 #[] #[{ accessFlags := 1, nameIndex := 5, descriptorIndex := 6, attributes := #[] }] 33 0 #[] #[])
  fields := #[]
  methods := #[k0m0]
  instanceTypes := #[]
  staticTypes := #[]
  resolved := Array.replicate 124 none
  statics := none }

def pool1 : Array CpInfo := pool [(2, .class_ 4), (1, u "java/lang/Object"), (0, u "<init>"), (0, u "()V"), (0, .class_ 8), (0, u "com/example/plain_tariff/plaintariff/RelativeDay"), (0, .methodref 10 11), (0, .class_ 12), (0, .nameAndType 13 14), (0, u "com/example/plain_tariff/plaintariff/RelativeDayIsAfterPinLaw"), (0, u "day"), (0, u "(I)I"), (0, .methodref 7 16), (0, .nameAndType 5 17), (0, u "(II)V"), (0, .long 32), (1, .methodref 7 21), (0, .nameAndType 22 23), (0, u "isAfter"), (0, u "(Lcom/example/plain_tariff/plaintariff/RelativeDay;)Z"), (3, u "law"), (0, u "(IIII)Z")] 2

def k1m0 : Method := { name := "<init>", desc := "()V", sig := { parameters := [], returnType := none }, accessFlags := 2, code := none }
def k1c1 : Code := { maxStack := 2, maxLocals := 2, code := method_2_code, exceptionTable := #[], attributes := #[] }
def k1m1 : Method := { name := "day", desc := "(I)I", sig := { parameters := [.int], returnType := some .int }, accessFlags := 10, code := some k1c1 }
def k1c2 : Code := { maxStack := 5, maxLocals := 14, code := code, exceptionTable := #[], attributes := #[] }
def k1m2 : Method := { name := "law", desc := "(IIII)Z", sig := { parameters := [.int, .int, .int, .int], returnType := some .boolean }, accessFlags := 9, code := some k1c2 }
/-- com/example/plain_tariff/plaintariff/RelativeDayIsAfterPinLaw -/
def k1 : Class := { plain "com/example/plain_tariff/plaintariff/RelativeDayIsAfterPinLaw" (some 0) with
  accessFlags := 49
  interfaces := #[]
  cf := some (fileOf pool1 10 #[] #[{ accessFlags := 2, nameIndex := 5, descriptorIndex := 6, attributes := #[] }, { accessFlags := 10, nameIndex := 13, descriptorIndex := 14, attributes := #[] }, { accessFlags := 9, nameIndex := 27, descriptorIndex := 28, attributes := #[] }] 49 2 #[] #[])
  fields := #[]
  methods := #[k1m0, k1m1, k1m2]
  instanceTypes := #[]
  staticTypes := #[]
  resolved := Array.replicate 31 none
  statics := none }

def pool2 : Array CpInfo := pool [(1, .methodref 2 3), (0, .class_ 4), (0, .nameAndType 5 6), (0, u "java/lang/Object"), (0, u "<init>"), (0, u "()V"), (0, .class_ 8), (0, u "java/lang/Record")] 13

def k2c0 : Code := { maxStack := 1, maxLocals := 1, code := jdk_30_method_1_code, exceptionTable := #[], attributes := #[] }
def k2m0 : Method := { name := "<init>", desc := "()V", sig := { parameters := [], returnType := none }, accessFlags := 4, code := some k2c0 }
/-- java/lang/Record -/
def k2 : Class := { plain "java/lang/Record" (some 0) with
  accessFlags := 1057
  interfaces := #[]
  cf := some (fileOf pool2 7 #[] #[{ accessFlags := 4, nameIndex := 5, descriptorIndex := 6, attributes := #[] }] 1057 2 #[] #[])
  fields := #[]
  methods := #[k2m0]
  instanceTypes := #[]
  staticTypes := #[]
  resolved := Array.replicate 22 none
  statics := none }

def pool3 : Array CpInfo := pool [(1, .methodref 2 3), (0, .class_ 4), (0, .nameAndType 5 6), (0, u "java/lang/Record"), (0, u "<init>"), (0, u "()V"), (0, .class_ 8), (0, u "com/example/plain_tariff/plaintariff/RelativeDay"), (9, .fieldref 7 19), (0, .nameAndType 20 21), (0, u "monthOffset"), (0, u "I"), (0, .fieldref 7 23), (0, .nameAndType 24 21), (0, u "day"), (2, u "DAY_TEXT"), (0, u "Ljava/util/regex/Pattern;"), (34, u "(II)V"), (2, u "MONTH_TEXT"), (60, u "LAST"), (2, u "MAX_DAY"), (1, u "MONTH"), (0, u "Ljava/lang/String;"), (11, u "isAfter"), (0, u "(Lcom/example/plain_tariff/plaintariff/RelativeDay;)Z")] 43

def k3c0 : Code := { maxStack := 3, maxLocals := 3, code := prog_44_method_1_code, exceptionTable := #[], attributes := #[] }
def k3m0 : Method := { name := "<init>", desc := "(II)V", sig := { parameters := [.int, .int], returnType := none }, accessFlags := 1, code := some k3c0 }
def k3c1 : Code := { maxStack := 2, maxLocals := 2, code := prog_44_method_6_code, exceptionTable := #[], attributes := #[] }
def k3m1 : Method := { name := "isAfter", desc := "(Lcom/example/plain_tariff/plaintariff/RelativeDay;)Z", sig := { parameters := [(.object "com/example/plain_tariff/plaintariff/RelativeDay")], returnType := some .boolean }, accessFlags := 0, code := some k3c1 }
/-- com/example/plain_tariff/plaintariff/RelativeDay -/
def k3 : Class := { plain "com/example/plain_tariff/plaintariff/RelativeDay" (some 2) with
  accessFlags := 49
  interfaces := #[]
  cf := some (fileOf pool3 7 #[] #[{ accessFlags := 1, nameIndex := 5, descriptorIndex := 63, attributes := #[] }, { accessFlags := 0, nameIndex := 145, descriptorIndex := 146, attributes := #[] }] 49 2 #[] #[{ accessFlags := 18, nameIndex := 20, descriptorIndex := 21, attributes := #[] }, { accessFlags := 18, nameIndex := 24, descriptorIndex := 21, attributes := #[] }, { accessFlags := 25, nameIndex := 127, descriptorIndex := 21, attributes := #[] }, { accessFlags := 26, nameIndex := 130, descriptorIndex := 21, attributes := #[] }, { accessFlags := 26, nameIndex := 132, descriptorIndex := 133, attributes := #[] }, { accessFlags := 26, nameIndex := 66, descriptorIndex := 28, attributes := #[] }, { accessFlags := 26, nameIndex := 27, descriptorIndex := 28, attributes := #[] }])
  fields := #[{ name := "monthOffset", type := .int, accessFlags := 18, slot := 0, constantValue := 0 }, { name := "day", type := .int, accessFlags := 18, slot := 1, constantValue := 0 }, { name := "LAST", type := .int, accessFlags := 25, slot := 0, constantValue := 0 }, { name := "MAX_DAY", type := .int, accessFlags := 26, slot := 1, constantValue := 0 }, { name := "MONTH", type := (.object "java/lang/String"), accessFlags := 26, slot := 2, constantValue := 0 }, { name := "MONTH_TEXT", type := (.object "java/util/regex/Pattern"), accessFlags := 26, slot := 3, constantValue := 0 }, { name := "DAY_TEXT", type := (.object "java/util/regex/Pattern"), accessFlags := 26, slot := 4, constantValue := 0 }]
  methods := #[k3m0, k3m1]
  instanceTypes := #[.int, .int]
  staticTypes := #[.int, .int, (.object "java/lang/String"), (.object "java/util/regex/Pattern"), (.object "java/util/regex/Pattern")]
  resolved := Array.replicate 190 none
  statics := none }

def pool4 : Array CpInfo := pool [(1, u "java/lang/Cloneable"), (0, .class_ 1), (0, u "java/lang/Object"), (0, .class_ 3)] 3

/-- java/lang/Cloneable -/
def k4 : Class := { plain "java/lang/Cloneable" (some 0) with
  accessFlags := 1537
  interfaces := #[]
  cf := some (fileOf pool4 2 #[] #[] 1537 4 #[] #[])
  fields := #[]
  methods := #[]
  instanceTypes := #[]
  staticTypes := #[]
  resolved := Array.replicate 8 none
  statics := none }

def pool5 : Array CpInfo := pool [(1, u "java/io/Serializable"), (0, .class_ 1), (0, u "java/lang/Object"), (0, .class_ 3)] 3

/-- java/io/Serializable -/
def k5 : Class := { plain "java/io/Serializable" (some 0) with
  accessFlags := 1537
  interfaces := #[]
  cf := some (fileOf pool5 2 #[] #[] 1537 4 #[] #[])
  fields := #[]
  methods := #[]
  instanceTypes := #[]
  staticTypes := #[]
  resolved := Array.replicate 8 none
  statics := none }

/-- the primitive byte -/
def k6 : Class := { plain "byte" none with kind := .primitive 'B', accessFlags := 0x411 }
/-- [B -/
def k7 : Class := { plain "[B" (some 0) with kind := .array 6 .byte, interfaces := #[4, 5], accessFlags := 1041 }

/-- the primitive int -/
def k8 : Class := { plain "int" none with kind := .primitive 'I', accessFlags := 0x411 }
/-- [I -/
def k9 : Class := { plain "[I" (some 0) with kind := .array 8 .int, interfaces := #[4, 5], accessFlags := 1041 }

def heap : Heap := #[]
def classes : Array Class := #[k0, k1, k2, k3, k4, k5, k6, k7, k8, k9]
def interned : List (Array UInt16 × Addr) := []
def slotsUsed : Nat := 0
def theMethod : MethodId := ⟨1, 2⟩
def args0 : Array Value := #[.int 5, .int 6, .int 7, .int 8]
def aboutOver (below : List Frame) : State where
  vm := { classes := classes, interned := interned.toArray }
  heap := heap
  slotsUsed := slotsUsed
  threads := #[{ frames := .invoking theMethod args0 :: below }]
def below0 : List Frame := [.native { method := ⟨0, 0⟩, args := #[] }]
def about1 : State := aboutOver below0
def p0 : Program := .bare "" "" ""
def e0 : Env := launch0.env 0 0 0
theorem w_frames : about1.frames = Frame.invoking theMethod args0 :: below0 := rfl
set_option maxRecDepth 65536 in
theorem w_args : argsFit about1.vm theMethod args0 = true := by decide +kernel
set_option maxRecDepth 65536 in
theorem w_heap : heapFits about1 = true := by decide +kernel
set_option maxRecDepth 65536 in
theorem w_runnable : about1.curStatus? = some .runnable := by decide +kernel
set_option maxRecDepth 65536 in
theorem w_alone : about1.alone = true := by decide +kernel
set_option maxRecDepth 65536 in
theorem w_named : about1.methodNamed? x = some theMethod := by decide +kernel
set_option maxRecDepth 65536 in
theorem w_hears : about1.hears theMethod below0 = true := by decide +kernel
set_option maxRecDepth 65536 in
theorem w_ripe : about1.ripe theMethod args0 below0 = true := by decide +kernel
theorem w_running : about1.status = .running := rfl
set_option maxRecDepth 65536 in
theorem w_room : about1.hasRoom e0.platform room_1 = true :=
  launch0.hasRoom_least _ room_1 (by decide +kernel) (by decide +kernel) (by decide +kernel) (by decide +kernel) (by decide +kernel) (by decide +kernel)
theorem allAtoms_all (ts : List Jvm.Cond) (a : Array Jvm.Value) (st : Jvm.State) : (allAtoms ts).before a st = ts.all (fun c => c.before a st) := by
  induction ts with
  | nil => rfl
  | cons c t ih =>
    show (Jvm.Cond.and c (allAtoms t)).before a st = _
    rw [Jvm.Cond.before_and, ih, List.all_cons]
def words1 : List Jvm.Cond := Jvm.Cond.code x code maxLocals ret :: tables_1
/-- a 'code' word, met by the world's own term for the bytes: nothing is compared byte by byte -/
theorem code_word {y : MethodName} {bytes : ByteArray} {mx : Nat} {rt : Option FieldType} {a : Array Value} {s : State} {m : MethodId} {meth : Method} {c : Code} (h1 : s.methodNamed? y = some m) (h2 : s.vm.method? m = some meth) (h3 : meth.code = some c) (h4 : c.code = bytes)
    (h5 : (c.maxLocals == mx && c.exceptionTable.isEmpty && decide (c.maxStack ≤ mostOperands) && decide (meth.sig.returnType = rt) && !meth.locks && decide (parseMethodDescriptor y.desc = some meth.sig)) = true) : (Jvm.Cond.code y bytes mx rt).before a s = true := by
  simp only [Bool.and_eq_true, beq_iff_eq, Bool.not_eq_true', decide_eq_true_eq] at h5
  obtain ⟨⟨⟨⟨⟨g1, g2⟩, g3⟩, g4⟩, g5⟩, g6⟩ := h5
  simp [Cond.before, Cond.holds, Cond.value, h1, h2, h3, h4, g1, g2, g3, g4, g5, g6]
def isCode : Jvm.Cond → Bool
  | .code _ _ _ _ => true
  | _ => false
theorem all_split {L : List Jvm.Cond} {P : Jvm.Cond → Bool} (h1 : L.all (fun c => isCode c || P c) = true) (h2 : ∀ c ∈ L.filter isCode, P c = true) : L.all P = true := by
  refine List.all_eq_true.mpr fun c hc => ?_
  have h := List.all_eq_true.mp h1 c hc
  rcases Bool.eq_false_or_eq_true (isCode c) with hi | hi
  · exact h2 c (List.mem_filter.mpr ⟨hc, hi⟩)
  · simpa [hi] using h
set_option maxRecDepth 65536 in
theorem w_c0 : (Jvm.Cond.code x code maxLocals ret).before args0 about1 = true := code_word (m := ⟨1, 2⟩) (meth := k1m2) (c := k1c2) (by decide +kernel) rfl rfl rfl (by decide +kernel)
set_option maxRecDepth 65536 in
theorem w_c1 : (Jvm.Cond.code ({ cls := "com/example/plain_tariff/plaintariff/RelativeDayIsAfterPinLaw", name := "day", desc := "(I)I" } : Jvm.MethodName) method_2_code (2 : Nat) (Option.some Jvm.ClassFile.FieldType.int)).before args0 about1 = true := code_word (m := ⟨1, 1⟩) (meth := k1m1) (c := k1c1) (by decide +kernel) rfl rfl rfl (by decide +kernel)
set_option maxRecDepth 65536 in
theorem w_c2 : (Jvm.Cond.code ({ cls := "com/example/plain_tariff/plaintariff/RelativeDay", name := "<init>", desc := "(II)V" } : Jvm.MethodName) prog_44_method_1_code (3 : Nat) (Option.none : Option Jvm.ClassFile.FieldType)).before args0 about1 = true := code_word (m := ⟨3, 0⟩) (meth := k3m0) (c := k3c0) (by decide +kernel) rfl rfl rfl (by decide +kernel)
set_option maxRecDepth 65536 in
theorem w_c3 : (Jvm.Cond.code ({ cls := "java/lang/Record", name := "<init>", desc := "()V" } : Jvm.MethodName) jdk_30_method_1_code (1 : Nat) (Option.none : Option Jvm.ClassFile.FieldType)).before args0 about1 = true := code_word (m := ⟨2, 0⟩) (meth := k2m0) (c := k2c0) (by decide +kernel) rfl rfl rfl (by decide +kernel)
set_option maxRecDepth 65536 in
theorem w_c4 : (Jvm.Cond.code ({ cls := "java/lang/Object", name := "<init>", desc := "()V" } : Jvm.MethodName) object_method_1_code (1 : Nat) (Option.none : Option Jvm.ClassFile.FieldType)).before args0 about1 = true := code_word (m := ⟨0, 0⟩) (meth := k0m0) (c := k0c0) (by decide +kernel) rfl rfl rfl (by decide +kernel)
set_option maxRecDepth 65536 in
theorem w_c5 : (Jvm.Cond.code ({ cls := "com/example/plain_tariff/plaintariff/RelativeDay", name := "isAfter", desc := "(Lcom/example/plain_tariff/plaintariff/RelativeDay;)Z" } : Jvm.MethodName) prog_44_method_6_code (2 : Nat) (Option.some Jvm.ClassFile.FieldType.boolean)).before args0 about1 = true := code_word (m := ⟨3, 1⟩) (meth := k3m1) (c := k3c1) (by decide +kernel) rfl rfl rfl (by decide +kernel)
def codes1 : List Jvm.Cond := [Jvm.Cond.code x code maxLocals ret, Jvm.Cond.code ({ cls := "com/example/plain_tariff/plaintariff/RelativeDayIsAfterPinLaw", name := "day", desc := "(I)I" } : Jvm.MethodName) method_2_code (2 : Nat) (Option.some Jvm.ClassFile.FieldType.int), Jvm.Cond.code ({ cls := "com/example/plain_tariff/plaintariff/RelativeDay", name := "<init>", desc := "(II)V" } : Jvm.MethodName) prog_44_method_1_code (3 : Nat) (Option.none : Option Jvm.ClassFile.FieldType), Jvm.Cond.code ({ cls := "java/lang/Record", name := "<init>", desc := "()V" } : Jvm.MethodName) jdk_30_method_1_code (1 : Nat) (Option.none : Option Jvm.ClassFile.FieldType), Jvm.Cond.code ({ cls := "java/lang/Object", name := "<init>", desc := "()V" } : Jvm.MethodName) object_method_1_code (1 : Nat) (Option.none : Option Jvm.ClassFile.FieldType), Jvm.Cond.code ({ cls := "com/example/plain_tariff/plaintariff/RelativeDay", name := "isAfter", desc := "(Lcom/example/plain_tariff/plaintariff/RelativeDay;)Z" } : Jvm.MethodName) prog_44_method_6_code (2 : Nat) (Option.some Jvm.ClassFile.FieldType.boolean)]
set_option maxRecDepth 65536 in
theorem codes_eq : words1.filter isCode = codes1 := rfl
theorem w_codes : ∀ c ∈ words1.filter isCode, c.before args0 about1 = true := by
  rw [codes_eq]
  intro c hc
  simp only [codes1, List.mem_cons, List.not_mem_nil, or_false] at hc
  rcases hc with rfl | rfl | rfl | rfl | rfl | rfl
  · exact w_c0
  · exact w_c1
  · exact w_c2
  · exact w_c3
  · exact w_c4
  · exact w_c5
set_option maxRecDepth 65536 in
theorem w_t1 : (words1.take 24).all (fun c => isCode c || c.before args0 about1) = true := by decide +kernel
set_option maxRecDepth 65536 in
theorem w_t2 : (words1.drop 24).all (fun c => isCode c || c.before args0 about1) = true := by decide +kernel
theorem w_tables : (allAtoms (Jvm.Cond.code x code maxLocals ret :: tables_1)).before args0 about1 = true := by
  rw [allAtoms_all]
  show words1.all (fun c => c.before args0 about1) = true
  refine all_split ?_ w_codes
  rw [← List.take_append_drop 24 words1, List.all_append, w_t1, w_t2]
  rfl
set_option maxRecDepth 65536 in
theorem w_case : (Jvm.Cond.and given_1 narrow_1).before args0 about1 = true := by decide +kernel
theorem w_applies : (headSpec (Jvm.Cond.code x code maxLocals ret :: tables_1) room_1).applies x e0.platform about1 = true :=
  (Spec.applies_iff w_frames).mpr ⟨w_running, w_runnable, w_alone, w_named, w_hears, w_ripe, w_room, w_tables⟩
theorem atStart : AtStart classFile x code maxLocals ret World_1 tables_1 room_1 Calls_1 rest_1 Pre_1 launch0 p0 e0 about1 theMethod args0 below0 :=
  ⟨lists_1, trivial, launch0.admits_env _ _ _, launch0.least_env, fairChoices_fair.cas, fairChoices_fair.clock, w_frames, w_args, w_heap, w_applies, trivial, trivial, w_case⟩
end start1
theorem witness_1 : WitnessClaimed_1 := ⟨start1.p0, start1.e0, start1.about1, start1.theMethod, start1.args0, start1.below0, start1.atStart⟩
end Jvm.Pilot.@@N@@
