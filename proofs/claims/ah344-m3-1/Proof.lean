import JvmDerived
import JvmDerived.Pilot.@@N@@Statement
import JvmDerived.Pilot.@@N@@Code
set_option linter.unusedVariables false
set_option linter.unusedSimpArgs false
namespace Jvm.Pilot.@@N@@
open Jvm Jvm.ClassFile Sem Op Lib Jvm.Free Jvm.Stand Jvm.LawKit Jvm.RoadKit Bundle Jvm.Pilot.@@N@@.Jvm.D
/-! own layer: the run from a state ends in a return of which Q holds; one step leads from there to there -/
def own_ishl (x y : Int32) : Int32 := x <<< (y &&& 31)
def own_ishr (x y : Int32) : Int32 := x >>> (y &&& 31)
def own_iushr (x y : Int32) : Int32 := (x.toUInt32 >>> (y &&& 31).toUInt32).toInt32
def own_lshl (x : Int64) (y : Int32) : Int64 := x <<< (y &&& 0x3f).toInt64
def own_lshr (x : Int64) (y : Int32) : Int64 := x >>> (y &&& 0x3f).toInt64
def own_lushr (x : Int64) (y : Int32) : Int64 := (x.toUInt64 >>> (y &&& 0x3f).toInt64.toUInt64).toInt64
def own_i2b (x : Int32) : Int32 := x.toInt8.toInt32
def own_i2c (x : Int32) : Int32 := x.toUInt32.toUInt16.toUInt32.toInt32
def own_Fin (tb : Tables) (e : Env) (below : List Frame) (s : State) (Q : Option Value → Heap → List Loc → Prop) (k n : Nat) (t : State) : Prop :=
  ∃ s₂ o, Steps tb e below t s₂ ∧ s₂.status = .running ∧ Ended s₂ below o ∧ ∃ v L, o = .returned v ∧ Q v s₂.heap L ∧ FrameEnd s o s₂ L k n
theorem own_go {tb : Tables} {e : Env} {below : List Frame} {s : State} {Q : Option Value → Heap → List Loc → Prop} {k n : Nat} {t t' : State}
    (h : ∀ target, Steps tb e below t' target → Steps tb e below t target) (q : own_Fin tb e below s Q k n t') : own_Fin tb e below s Q k n t := by
  obtain ⟨s2, o, h1, h2⟩ := q
  exact ⟨s2, o, h _ h1, h2⟩
def own_QP (r : Option Value) (h0 : Heap) (n0 : Nat) (v : Option Value) (h : Heap) (L : List Loc) : Prop := v = r ∧ Fr n0 L ∧ h = h0
section OwnA
variable {p : Program} {l : Launch} {e : Env} {R : Room} {s : State} {m : MethodId} {args : Array Value} {below : List Frame} {meth : Method} {c : Code} {T : State} {locs : List Loc} {cells slots : Nat}
theorem own_mono (X : Stand p l e R s m args below meth c T locs cells slots) {k n : Nat} (hk : cells ≤ k) (hn : slots ≤ n) : Stand p l e R s m args below meth c T locs k n :=
  { X with same := X.same.mono hk hn }
theorem own_ret (X : Stand p l e R s m args below meth c T locs cells slots) (hx : p.tables.exec = Jvm.exec) (hlk : meth.locks = false) {pc : Nat} {Ls : Array Slot} {w : Value} {t : FieldType} {i : Instr} {rest : List Value} (hret : meth.sig.returnType = some t) (hn : narrow t w = w)
    (hi : (i = .ireturn ∧ (t = .int ∨ t = .boolean ∨ t = .byte ∨ t = .char ∨ t = .short) ∧ ∃ z, w = .int z) ∨ (i = .lreturn ∧ t = .long ∧ ∃ z, w = .long z) ∨ (i = .dreturn ∧ t = .double ∧ ∃ z, w = .double z) ∨ (i = .freturn ∧ t = .float ∧ ∃ z, w = .float z) ∨ (i = .areturn ∧ t.isReference = true ∧ w.isRef = true))
    (hd : decode c.code pc = .ok (i, 1)) {Q : Option Value → Heap → List Loc → Prop} {k n : Nat} (hk : cells ≤ k) (hs : slots ≤ n) (hQ : Q (some w) T.heap locs) :
    own_Fin p.tables e below s Q k n (T.setTop (mkF m pc Ls (w :: rest))) := by
  obtain ⟨fs, hr, hrun, hended, hW, hsame⟩ := X.leave (v := some w) (fun h => by rw [hret] at h; cases h) hlk
  exact ⟨_, _, retOut X hx hret hn hi hd hr, hrun, hended, _, _, rfl, hQ, ⟨_, rfl⟩, hW, hsame.mono hk hs⟩
theorem own_retV (X : Stand p l e R s m args below meth c T locs cells slots) (hx : p.tables.exec = Jvm.exec) (hlk : meth.locks = false) {pc : Nat} {Ls : Array Slot} (hret : meth.sig.returnType = none)
    (hd : decode c.code pc = .ok (.return_, 1)) {Q : Option Value → Heap → List Loc → Prop} {k n : Nat} (hk : cells ≤ k) (hs : slots ≤ n) (hQ : Q none T.heap locs) :
    own_Fin p.tables e below s Q k n (T.setTop (mkF m pc Ls [])) := by
  obtain ⟨fs, hr, hrun, hended, hW, hsame⟩ := X.leave (v := none) (fun _ => rfl) hlk
  exact ⟨_, _, X.returnOut hx hret hd hr, hrun, hended, _, _, rfl, hQ, ⟨_, rfl⟩, hW, hsame.mono hk hs⟩
end OwnA
theorem own_irem {tb : Tables} [Ours tb] {e : Env} {below : List Frame} {T target : State} {m : MethodId} {c : Code} {g : JFrame} (h : At T m c below) (hx : tb.exec = Jvm.exec) (hg : g.method = m) {x y : Int32} {rest : List Value} (hd : decode c.code g.pc = .ok (.irem, 1)) (hs : g.stack = .int y :: .int x :: rest) (hy : y ≠ 0)
    (hr : Steps tb e below (T.setTop { g with pc := g.pc + 1, stack := .int (x % y) :: rest }) target) : Steps tb e below (T.setTop g) target :=
  XS.irem h hx hg hd hs hy (by rw [irem_eq_mod x y]; exact hr)
theorem own_lrem {tb : Tables} [Ours tb] {e : Env} {below : List Frame} {T target : State} {m : MethodId} {c : Code} {g : JFrame} (h : At T m c below) (hx : tb.exec = Jvm.exec) (hg : g.method = m) {x y : Int64} {rest : List Value} (hd : decode c.code g.pc = .ok (.lrem, 1)) (hs : g.stack = .long y :: .long x :: rest) (hy : y ≠ 0)
    (hr : Steps tb e below (T.setTop { g with pc := g.pc + 1, stack := .long (x % y) :: rest }) target) : Steps tb e below (T.setTop g) target :=
  XS.lrem h hx hg hd hs hy (by rw [lrem_mod x y]; exact hr)
/-! arrays by a function of the place -/
def own_set {α : Type} (f : Nat → α) (j : Int32) (v : α) : Nat → α := fun i => if i = j.toNatClampNeg then v else f i
def own_Arf (Z : State) (h : Heap) (a : Addr) (ty : FieldType) (n : Int32) (f : Nat → Value) : Prop :=
  ∃ c : Cell, Arr Z h a c ty ∧ c.slots.size = n.toNatClampNeg ∧ ¬ n < 0 ∧ ∀ i, i < n.toNatClampNeg → c.slots[i]? = some (f i)
section OwnB
variable {Z : State} {h h' : Heap} {a b : Addr} {ty : FieldType} {n j : Int32} {f : Nat → Value} {ws : List Addr} {v : Value} {sl : Nat}
theorem own_Arf.lt (F : own_Arf Z h a ty n f) : a < h.size := by obtain ⟨c, A, -⟩ := F; exact A.lt
theorem own_Arf.ext (F : own_Arf Z h a ty n f) (E : Ext h h') : own_Arf Z h' a ty n f := by obtain ⟨c, A, r⟩ := F; exact ⟨c, A.ext E, r⟩
theorem own_Arf.other (F : own_Arf Z h b ty n f) (W : Wr h h' a sl v) (q : b ≠ a) : own_Arf Z h' b ty n f := by obtain ⟨c, A, r⟩ := F; exact ⟨c, A.other W q, r⟩
theorem own_Arf.keep (F : own_Arf Z h a ty n f) (K : Keep h h' ws) (q : a ∉ ws) : own_Arf Z h' a ty n f := by obtain ⟨c, A, r⟩ := F; exact ⟨c, ⟨K.2.1 a c A.1 q, A.2⟩, r⟩
theorem own_Arf.new {k : ClassId} (A : Arr Z h a (newA k ty n) ty) (q : ¬ n < 0) : own_Arf Z h a ty n (fun _ => defaultValue ty) :=
  ⟨_, A, sz_new _ _ _, q, fun i hi => by simp [newA, hi]⟩
theorem own_Arf.wr (F : own_Arf Z h a ty n f) (W : Wr h h' a j.toNatClampNeg v) : own_Arf Z h' a ty n (fun i => if i = j.toNatClampNeg then v else f i) := by
  obtain ⟨c, A, S, q, H⟩ := F
  refine ⟨_, A.same W, by rw [sz_set]; exact S, q, fun i hi => ?_⟩
  by_cases u : i = j.toNatClampNeg
  · subst u; simp [Cell.setSlot, S, hi]
  · simp only [if_neg u, Cell.setSlot]; rw [Array.getElem?_setIfInBounds_ne (Ne.symm u)]; exact H i hi
theorem own_Arf.fn {g : Nat → Value} (F : own_Arf Z h a ty n f) (q : ∀ i, i < n.toNatClampNeg → f i = g i) : own_Arf Z h a ty n g := by
  obtain ⟨c, A, S, q', H⟩ := F
  exact ⟨c, A, S, q', fun i hi => by rw [← q i hi]; exact H i hi⟩
variable {p : Program} {l : Launch} {e : Env} {R : Room} {s : State} {m : MethodId} {args : Array Value} {below : List Frame} {meth : Method} {c : Code} {T : State} {locs : List Loc} {cells slots : Nat} {g : JFrame} {rest : List Value}
theorem own_alen (X : Stand p l e R s m args below meth c T locs cells slots) (hx : p.tables.exec = Jvm.exec) (hZ : Z.Warmed39 s.vm) (eT : T.heap = h) (F : own_Arf Z h a ty n f) (hg : g.method = m) (hs : g.stack = .ref a :: rest) (hd : decode c.code g.pc = .ok (.arraylength, 1)) (target : State)
    (hr : Steps p.tables e below (T.setTop { g with pc := g.pc + 1, stack := .int n :: rest }) target) : Steps p.tables e below (T.setTop g) target := by
  obtain ⟨cl, A, S, q, H⟩ := F
  refine X.arraylength hx (by rw [eT]; exact A.1) (State.isArrayOf_alike hZ.alike A.2.1) hg hs hd _ ?_
  rw [len_of S q]; exact hr
theorem own_iaload (X : Stand p l e R s m args below meth c T locs cells slots) (hx : p.tables.exec = Jvm.exec) (hZ : Z.Warmed39 s.vm) (eT : T.heap = h) (F : own_Arf Z h a .int n f) (hj : ¬ j < 0 ∧ j < n) {x : Int32} (hv : f j.toNatClampNeg = .int x) (hg : g.method = m) (hs : g.stack = .int j :: .ref a :: rest) (hd : decode c.code g.pc = .ok (.iaload, 1)) (target : State)
    (hr : Steps p.tables e below (T.setTop { g with pc := g.pc + 1, stack := .int x :: rest }) target) : Steps p.tables e below (T.setTop g) target := by
  obtain ⟨cl, A, S, q, H⟩ := F
  have hin := inb_of S hj
  exact X.iaload hx (by rw [eT]; exact A.1) (State.isArrayOf_alike hZ.alike A.2.1) A.2.2 hin (by rw [H _ (by rw [← S]; omega), hv]) hg hs hd _ hr
theorem own_baload (X : Stand p l e R s m args below meth c T locs cells slots) (hx : p.tables.exec = Jvm.exec) (hZ : Z.Warmed39 s.vm) (eT : T.heap = h) (F : own_Arf Z h a .byte n f) (hj : ¬ j < 0 ∧ j < n) {x : Int32} (hv : f j.toNatClampNeg = .int x) (hg : g.method = m) (hs : g.stack = .int j :: .ref a :: rest) (hd : decode c.code g.pc = .ok (.baload, 1)) (target : State)
    (hr : Steps p.tables e below (T.setTop { g with pc := g.pc + 1, stack := .int x :: rest }) target) : Steps p.tables e below (T.setTop g) target := by
  obtain ⟨cl, A, S, q, H⟩ := F
  have hin := inb_of S hj
  exact X.baloadBytes hx (by rw [eT]; exact A.1) (State.isArrayOf_alike hZ.alike A.2.1) A.2.2 hin (by rw [H _ (by rw [← S]; omega), hv]) hg hs hd _ hr
theorem own_laload (X : Stand p l e R s m args below meth c T locs cells slots) (hx : p.tables.exec = Jvm.exec) (hZ : Z.Warmed39 s.vm) (eT : T.heap = h) (F : own_Arf Z h a .long n f) (hj : ¬ j < 0 ∧ j < n) {x : Int64} (hv : f j.toNatClampNeg = .long x) (hg : g.method = m) (hs : g.stack = .int j :: .ref a :: rest) (hd : decode c.code g.pc = .ok (.laload, 1)) (target : State)
    (hr : Steps p.tables e below (T.setTop { g with pc := g.pc + 1, stack := .long x :: rest }) target) : Steps p.tables e below (T.setTop g) target := by
  obtain ⟨cl, A, S, q, H⟩ := F
  have hin := inb_of S hj
  exact X.laload hx (by rw [eT]; exact A.1) (State.isArrayOf_alike hZ.alike A.2.1) A.2.2 hin (by rw [H _ (by rw [← S]; omega), hv]) hg hs hd _ hr
theorem own_stI (X : Stand p l e R s m args below meth c T locs cells slots) (hx : p.tables.exec = Jvm.exec) (hZ : Z.Warmed39 s.vm) (eT : T.heap = h) {q : Nat → Int32} (F : own_Arf Z h a .int n (fun i => .int (q i))) (hj : ¬ j < 0 ∧ j < n) {x : Int32} (hg : g.method = m) (hs : g.stack = .int x :: .int j :: .ref a :: rest) (hd : decode c.code g.pc = .ok (.iastore, 1)) :
    ∃ T' h', Stand p l e R s m args below meth c T' (locs ++ [⟨a, j.toNatClampNeg⟩]) cells slots ∧ T'.heap = h' ∧ Wr h h' a j.toNatClampNeg (.int x) ∧ own_Arf Z h' a .int n (fun i => .int (own_set q j x i)) ∧ ∀ target, Steps p.tables e below (T'.setTop { g with pc := g.pc + 1, stack := rest }) target → Steps p.tables e below (T.setTop g) target := by
  obtain ⟨cl, A, S, q1, H⟩ := F
  obtain ⟨T', h', X', e', W, st⟩ := stI X hx hZ eT A (inb_of S hj) hg hs hd
  refine ⟨T', h', X', e', W, (own_Arf.wr ⟨cl, A, S, q1, H⟩ W).fn fun i hi => ?_, st⟩
  simp only [own_set]; split <;> rfl
theorem own_stB (X : Stand p l e R s m args below meth c T locs cells slots) (hx : p.tables.exec = Jvm.exec) (hZ : Z.Warmed39 s.vm) (eT : T.heap = h) {q : Nat → Int32} (F : own_Arf Z h a .byte n (fun i => .int (q i))) (hj : ¬ j < 0 ∧ j < n) {x : Int32} (hg : g.method = m) (hs : g.stack = .int x :: .int j :: .ref a :: rest) (hd : decode c.code g.pc = .ok (.bastore, 1)) :
    ∃ T' h', Stand p l e R s m args below meth c T' (locs ++ [⟨a, j.toNatClampNeg⟩]) cells slots ∧ T'.heap = h' ∧ Wr h h' a j.toNatClampNeg (.int (own_i2b x)) ∧ own_Arf Z h' a .byte n (fun i => .int (own_set q j (own_i2b x) i)) ∧ ∀ target, Steps p.tables e below (T'.setTop { g with pc := g.pc + 1, stack := rest }) target → Steps p.tables e below (T.setTop g) target := by
  obtain ⟨cl, A, S, q1, H⟩ := F
  obtain ⟨T', h', X', e', W, st⟩ := stB X hx hZ eT A (inb_of S hj) hg hs hd
  refine ⟨T', h', X', e', W, (own_Arf.wr ⟨cl, A, S, q1, H⟩ W).fn fun i hi => ?_, st⟩
  simp only [own_set]; split <;> rfl
theorem own_stJ (X : Stand p l e R s m args below meth c T locs cells slots) (hx : p.tables.exec = Jvm.exec) (hZ : Z.Warmed39 s.vm) (eT : T.heap = h) {q : Nat → Int64} (F : own_Arf Z h a .long n (fun i => .long (q i))) (hj : ¬ j < 0 ∧ j < n) {x : Int64} (hg : g.method = m) (hs : g.stack = .long x :: .int j :: .ref a :: rest) (hd : decode c.code g.pc = .ok (.lastore, 1)) :
    ∃ T' h', Stand p l e R s m args below meth c T' (locs ++ [⟨a, j.toNatClampNeg⟩]) cells slots ∧ T'.heap = h' ∧ Wr h h' a j.toNatClampNeg (.long x) ∧ own_Arf Z h' a .long n (fun i => .long (own_set q j x i)) ∧ ∀ target, Steps p.tables e below (T'.setTop { g with pc := g.pc + 1, stack := rest }) target → Steps p.tables e below (T.setTop g) target := by
  obtain ⟨cl, A, S, q1, H⟩ := F
  obtain ⟨T', h', X', e', W, st⟩ := stJ X hx hZ eT A (inb_of S hj) hg hs hd
  refine ⟨T', h', X', e', W, (own_Arf.wr ⟨cl, A, S, q1, H⟩ W).fn fun i hi => ?_, st⟩
  simp only [own_set]; split <;> rfl
end OwnB
def own_QL (r : Option Value) (n0 : Nat) (v : Option Value) (h : Heap) (L : List Loc) : Prop := v = r ∧ Fr n0 L ∧ True
theorem own_ne_arf {Z : State} {h : Heap} {a b : Addr} {C : String} {ty : FieldType} {n : Int32} {f : Nat → Value} {a0 : Array Value} {k : Nat} (F : Exa Z h a C) (wi : (Cond.instantiable C k).before a0 Z = true) (G : own_Arf Z h b ty n f) : a ≠ b := by
  obtain ⟨c, A, -⟩ := G; exact ne_arr F wi A
def own_Two (a b : Slot) : Prop := (a = .unset ∧ b = .unset) ∨ ∃ x : Int64, a = .val (.long x) ∧ b = .second
theorem own_selpriv {s : State} {args args' : Array Value} {y z : MethodName} (hz : z.cls = y.cls) (w : (Cond.selects z.cls z z).before args' s = true) (hp : s.PrivateAt y) (hi : (Cond.instanceMethod y).before args s = true) (hy : y.cls ≠ "java/lang/invoke/MethodHandle" ∧ y.cls ≠ "java/lang/invoke/VarHandle") : (Cond.selects y.cls y y).before args s = true := by
  obtain ⟨c, r, m, h1, h2, h3, h4, k, hk, hki⟩ := Cond.selects_spec w
  have hm := findClass_of_methodNamed h3
  rw [hz] at hm
  exact selects_self_of_private hm hk hki hp hi hy
theorem d5_0 : decode jdk_29_method_65_code 0 = .ok (.iload_n 0, 1) := by decide +kernel
theorem d5_1 : decode jdk_29_method_65_code 1 = .ok (.iload_n 1, 1) := by decide +kernel
theorem d5_2 : decode jdk_29_method_65_code 2 = .ok (.if_icmp .lt 7, 3) := by decide +kernel
theorem d5_5 : decode jdk_29_method_65_code 5 = .ok (.iload_n 0, 1) := by decide +kernel
theorem d5_6 : decode jdk_29_method_65_code 6 = .ok (.goto 4, 3) := by decide +kernel
theorem d5_9 : decode jdk_29_method_65_code 9 = .ok (.iload_n 1, 1) := by decide +kernel
theorem d5_10 : decode jdk_29_method_65_code 10 = .ok (.ireturn, 1) := by decide +kernel
theorem ef_5 (m : MethodId) (p0 : Int32) (p1 : Int32) : entryFrame m #[(.int p0), (.int p1)] 2 = mkF m 0 #[.val (.int p0), .val (.int p1)] [] := by first | (simp [entryFrame, mkF, argsToLocals, Value.category]; done) | rfl
def own_rm5_room : Room := { frames := 0, cells := 0, slots := 0, locals := 0 }
def own_f5 (p0 : Int32) (p1 : Int32) : Int32 := (if p0 < p1 then (p1) else (p0))
theorem own_lf_own_f5_1 {p0 : Int32} {p1 : Int32} (hc1 : p0 < p1) : (some (.int p1) : Option Value) = some (.int (own_f5 p0 p1)) := by
  first | (simp only [own_f5, if_pos hc1]; done) | (simp only [own_f5, if_pos hc1]; rfl) | rfl
theorem own_lf_own_f5_2 {p0 : Int32} {p1 : Int32} (hc1 : ¬ (p0 < p1)) : (some (.int p0) : Option Value) = some (.int (own_f5 p0 p1)) := by
  first | (simp only [own_f5, if_neg hc1]; done) | (simp only [own_f5, if_neg hc1]; rfl) | rfl
set_option maxRecDepth 65536 in
set_option maxHeartbeats 40000000 in
theorem rm5 (l : Launch) (Z : State) (a0 : Array Value) (hw : ∀ d ∈ tables_1, d.before a0 Z = true) (ws : List Jvm.Cond) (p0 : Int32) (p1 : Int32) (h0 : Heap) (n0 : Nat) (Z0 : n0 ≤ h0.size) :
    MetFree l (⟨"java/lang/Math", "max", "(II)I"⟩ : MethodName) (head1 (Jvm.Cond.code (⟨"java/lang/Math", "max", "(II)I"⟩ : MethodName) jdk_29_method_65_code 2 (some .int) :: ws) own_rm5_room) (fun a U => a = #[(.int p0), (.int p1)] ∧ Z.Warmed39 U.vm ∧ U.heap = h0) (fun _ _ _ _ _ => True) (fun _ U o U' => ∃ v L, o = .returned v ∧ own_QP (some (.int (own_f5 p0 p1))) h0 n0 v U'.heap L ∧ FrameEnd U o U' L own_rm5_room.cells own_rm5_room.slots) := by
  refine MetFree.of_bodySF (Jvm.Free.JP.mathPlain rfl (by decide +kernel)) hisR ?_
  intro p e s m args below meth c s₁ Bd hml0 hP hK
  obtain ⟨rfl, hZ, hh⟩ := hP
  have hx := Bd.exec
  have hby := Bd.bytes
  have hml : c.maxLocals = 2 := hml0
  have hown : s.vm.findClass "java/lang/Math" = some m.cls := findClass_of_methodNamed Bd.named
  have hnm := (name_of_methodNamed Bd.named Bd.method).1
  have hlk : meth.locks = false := BodyLoose.notSynchronized Bd
  have X0 : Stand p l e own_rm5_room s m #[(.int p0), (.int p1)] below meth c s₁ [] 0 0 := Stand.of_body Bd
  have e0 : s₁.heap = h0 := by rw [← hh, Bd.state]; rfl
  have N0 := Fr.nil n0
  show own_Fin p.tables e below s (own_QP (some (.int (own_f5 p0 p1))) h0 n0) own_rm5_room.cells own_rm5_room.slots (s₁.setTop (entryFrame m #[(.int p0), (.int p1)] 2))
  rw [ef_5]
  show own_Fin _ _ _ _ _ _ _ (s₁.setTop (mkF m 0 #[.val (.int p0), .val (.int p1)] []))
  refine own_go (fun _ k => XS.iloadN X0.here hx rfl (hb hby d5_0) rfl k) ?_
  show own_Fin _ _ _ _ _ _ _ (s₁.setTop (mkF m 1 #[.val (.int p0), .val (.int p1)] [(.int p0)]))
  refine own_go (fun _ k => XS.iloadN X0.here hx rfl (hb hby d5_1) rfl k) ?_
  show own_Fin _ _ _ _ _ _ _ (s₁.setTop (mkF m 2 #[.val (.int p0), .val (.int p1)] [(.int p1), (.int p0)]))
  by_cases hc1 : p0 < p1
  · refine own_go (fun _ k => XS.icmpYes X0.here hx rfl (pc0 := 2) (pc' := 9) rfl (hb hby d5_2) rfl (tlt hc1).1 (by decide) (by decide) k) ?_
    show own_Fin _ _ _ _ _ _ _ (s₁.setTop (mkF m 9 #[.val (.int p0), .val (.int p1)] []))
    refine own_go (fun _ k => XS.iloadN X0.here hx rfl (hb hby d5_9) rfl k) ?_
    show own_Fin _ _ _ _ _ _ _ (s₁.setTop (mkF m 10 #[.val (.int p0), .val (.int p1)] [(.int p1)]))
    refine own_ret X0 hx hlk Bd.returns rfl (Or.inl ⟨rfl, by simp, _, rfl⟩) (hb hby d5_10) (Nat.le_of_ble_eq_true rfl) (Nat.le_of_ble_eq_true rfl) ?_
    exact ⟨(own_lf_own_f5_1 (p0 := p0) (p1 := p1) hc1), N0, e0⟩
  · refine own_go (fun _ k => XS.icmpNo X0.here hx rfl (hb hby d5_2) rfl (flt hc1).1 k) ?_
    show own_Fin _ _ _ _ _ _ _ (s₁.setTop (mkF m 5 #[.val (.int p0), .val (.int p1)] []))
    refine own_go (fun _ k => XS.iloadN X0.here hx rfl (hb hby d5_5) rfl k) ?_
    show own_Fin _ _ _ _ _ _ _ (s₁.setTop (mkF m 6 #[.val (.int p0), .val (.int p1)] [(.int p0)]))
    refine own_go (fun _ k => XS.goto X0.here hx rfl (pc0 := 6) (pc' := 10) rfl (hb hby d5_6) (by decide) (by decide) k) ?_
    show own_Fin _ _ _ _ _ _ _ (s₁.setTop (mkF m 10 #[.val (.int p0), .val (.int p1)] [(.int p0)]))
    refine own_ret X0 hx hlk Bd.returns rfl (Or.inl ⟨rfl, by simp, _, rfl⟩) (hb hby d5_10) (Nat.le_of_ble_eq_true rfl) (Nat.le_of_ble_eq_true rfl) ?_
    exact ⟨(own_lf_own_f5_2 (p0 := p0) (p1 := p1) hc1), N0, e0⟩
theorem own_mx : own_f5 (3 : Int32) (1 : Int32) = (3 : Int32) := by decide
theorem own_shr (x k : Int32) (n : Nat) (h : k.toBitVec.toNat % 32 = n) (hx : 0 ≤ x.toInt) : (own_iushr x k).toInt = x.toInt / (2 ^ n : Nat) := by
  have r := rng32 x
  cases n with
  | zero =>
    have e : (own_iushr x k).toBitVec = x.toBitVec := by
      show x.toBitVec >>> ((k &&& 31).toBitVec % 32#32) = _
      have e2 : ((k &&& 31).toBitVec % 32#32).toNat = 0 := by
        rw [BitVec.toNat_umod]
        show ((k &&& 31).toBitVec).toNat % 32 = 0
        have e3 : (k &&& 31).toBitVec.toNat = k.toBitVec.toNat % 32 := by
          show (k.toBitVec &&& (31 : Int32).toBitVec).toNat = _
          rw [BitVec.toNat_and, show (31 : Int32).toBitVec.toNat = 2 ^ 5 - 1 from by decide, Nat.and_two_pow_sub_one_eq_mod]
        rw [e3, h]
      rw [BitVec.ushiftRight_eq', e2]; simp
    rw [show own_iushr x k = x from Int32.toBitVec_inj.mp e]
    simp
  | succ n =>
    have s : (own_iushr x k).toInt = (x.toInt % 4294967296) / (2 ^ (n + 1) : Nat) := c_iushr x k (n + 1) h (by omega)
    rw [s, show x.toInt % 4294967296 = x.toInt from by omega]
theorem own_bs4 {g : Nat → Int32} (hp : 0 ≤ (g 2).toInt ∧ (g 2).toInt < 48) : own_iushr (g 2) (4 : Int32) < own_f5 (3 : Int32) (1 : Int32) := by
  rw [own_mx, Int32.lt_iff_toInt_lt, own_shr _ 4 4 (by decide) hp.1, show (3 : Int32).toInt = 3 from by decide, show ((2 ^ 4 : Nat) : Int) = 16 from by decide]
  omega
/-- what bucketStarts is handed: three numbers, ascending, the last one's bucket 0, 1 or 2 -/
def own_okB (g : Nat → Int32) (k : Int32) : Prop := ∃ a b c : Nat, (own_iushr (g 0) k).toInt = a ∧ (own_iushr (g 1) k).toInt = b ∧ (own_iushr (g 2) k).toInt = c ∧ a ≤ b ∧ b ≤ c ∧ c ≤ 2
theorem own_add1 (x : Int32) (n m : Nat) (h : x.toInt = n) (hn : n ≤ 100) (hm : m ≤ 100) : (x + Int32.ofNat m).toInt = ((n + m : Nat) : Int) := by
  have a := c_iadd x (Int32.ofNat m)
  have r := rng32 (x + Int32.ofNat m)
  rw [Int32.toInt_ofNat_small (by omega)] at a
  omega
theorem own_bneg {g : Nat → Int32} {k : Int32} (hp : own_okB g k) : ¬ ((own_iushr (g 2) k) + (2 : Int32)) < 0 := by
  obtain ⟨a, b, c, h0, h1, h2, q⟩ := hp
  have e := own_add1 _ c 2 h2 (by omega) (by decide)
  rw [Int32.lt_iff_toInt_lt, show (0 : Int32).toInt = 0 from by decide]
  have e' : ((own_iushr (g 2) k) + (2 : Int32)).toInt = ((c + 2 : Nat) : Int) := e
  omega
theorem own_bcap {g : Nat → Int32} {k : Int32} (hp : own_okB g k) : ((own_iushr (g 2) k) + (2 : Int32)).toNatClampNeg ≤ 4 := by
  obtain ⟨a, b, c, h0, h1, h2, q⟩ := hp
  have e' : ((own_iushr (g 2) k) + (2 : Int32)).toInt = ((c + 2 : Nat) : Int) := own_add1 _ c 2 h2 (by omega) (by decide)
  simp only [Int32.toNatClampNeg, e']; omega
theorem own_bix (x y : Int32) (n m : Nat) (hx : x.toInt = n) (hy : y.toInt = m) (h : n ≤ m) (hm : m ≤ 2) : ¬ (x + (1 : Int32)) < 0 ∧ (x + (1 : Int32)) < (y + (2 : Int32)) := by
  have e1 : (x + (1 : Int32)).toInt = ((n + 1 : Nat) : Int) := own_add1 x n 1 hx (by omega) (by decide)
  have e2 : (y + (2 : Int32)).toInt = ((m + 2 : Nat) : Int) := own_add1 y m 2 hy (by omega) (by decide)
  simp only [Int32.lt_iff_toInt_lt, show (0 : Int32).toInt = 0 from by decide, e1, e2]
  omega
theorem own_bix0 {g : Nat → Int32} {k : Int32} (hp : own_okB g k) : ¬ ((own_iushr (g 0) k) + (1 : Int32)) < 0 ∧ ((own_iushr (g 0) k) + (1 : Int32)) < ((own_iushr (g 2) k) + (2 : Int32)) := by
  obtain ⟨a, b, c, h0, h1, h2, q⟩ := hp; exact own_bix _ _ a c h0 h2 (by omega) (by omega)
theorem own_bix1 {g : Nat → Int32} {k : Int32} (hp : own_okB g k) : ¬ ((own_iushr (g 1) k) + (1 : Int32)) < 0 ∧ ((own_iushr (g 1) k) + (1 : Int32)) < ((own_iushr (g 2) k) + (2 : Int32)) := by
  obtain ⟨a, b, c, h0, h1, h2, q⟩ := hp; exact own_bix _ _ b c h1 h2 (by omega) (by omega)
theorem own_bix2 {g : Nat → Int32} {k : Int32} (hp : own_okB g k) : ¬ ((own_iushr (g 2) k) + (1 : Int32)) < 0 ∧ ((own_iushr (g 2) k) + (1 : Int32)) < ((own_iushr (g 2) k) + (2 : Int32)) := by
  obtain ⟨a, b, c, h0, h1, h2, q⟩ := hp; exact own_bix _ _ c c h2 h2 (by omega) (by omega)
theorem own_len4 {g : Nat → Int32} {k : Int32} (hp : own_okB g k) (n2 : ¬ ((own_iushr (g 2) k) + (2 : Int32)) = (2 : Int32)) (n3 : ¬ ((own_iushr (g 2) k) + (2 : Int32)) = (3 : Int32)) : ((own_iushr (g 2) k) + (2 : Int32)) = (4 : Int32) := by
  obtain ⟨a, b, c, h0, h1, h2, q⟩ := hp
  have e' : ((own_iushr (g 2) k) + (2 : Int32)).toInt = ((c + 2 : Nat) : Int) := own_add1 _ c 2 h2 (by omega) (by decide)
  have m2 : ((own_iushr (g 2) k) + (2 : Int32)).toInt ≠ 2 := fun z => n2 (Int32.toInt_inj.mp z)
  have m3 : ((own_iushr (g 2) k) + (2 : Int32)).toInt ≠ 3 := fun z => n3 (Int32.toInt_inj.mp z)
  exact Int32.toInt_inj.mp (by rw [show (4 : Int32).toInt = 4 from by decide]; omega)
/-- what bucketStarts leaves: place b tells how many numbers lie in a lower bucket -/
def own_spB (g : Nat → Int32) (k : Int32) (gB : Nat → Int32) : Prop := ∀ b : Nat, (b : Int) < ((own_iushr (g 2) k) + (2 : Int32)).toInt → (gB b).toInt = (if (own_iushr (g 0) k).toInt < b then (1 : Int) else 0) + (if (own_iushr (g 1) k).toInt < b then 1 else 0) + (if (own_iushr (g 2) k).toInt < b then 1 else 0)
theorem own_setv (g : Nat → Int32) (j v : Int32) (n : Nat) (k : Nat) (h : j.toNatClampNeg = k) : own_set g j v n = if n = k then v else g n := by simp only [own_set, h]
theorem own_cl {z : Int32} {k : Nat} (h : z.toInt = k) : z.toNatClampNeg = k := by simp only [Int32.toNatClampNeg, h]; omega
theorem own_f3c {g : Nat → Int32} {k : Int32} {a b c : Nat} (h0 : (own_iushr (g 0) k).toInt = a) (h1 : (own_iushr (g 1) k).toInt = b) (h2 : (own_iushr (g 2) k).toInt = c) (hc : a ≤ 2 ∧ b ≤ 2 ∧ c ≤ 2) {f1 f2 f3 : Nat → Int32}
    (e1 : f1 = (own_set (fun _ => (0 : Int32)) ((own_iushr (g 0) k) + (1 : Int32)) (((fun _ => (0 : Int32)) ((own_iushr (g 0) k) + (1 : Int32)).toNatClampNeg) + (1 : Int32))))
    (e2 : f2 = (own_set f1 ((own_iushr (g 1) k) + (1 : Int32)) ((f1 ((own_iushr (g 1) k) + (1 : Int32)).toNatClampNeg) + (1 : Int32))))
    (e3 : f3 = (own_set f2 ((own_iushr (g 2) k) + (1 : Int32)) ((f2 ((own_iushr (g 2) k) + (1 : Int32)).toNatClampNeg) + (1 : Int32)))) (n : Nat) :
    f3 n = (if n = c + 1 then (if c + 1 = b + 1 then (if b + 1 = a + 1 then (0 + 1 + 1 : Int32) else 0 + 1) else (if c + 1 = a + 1 then 0 + 1 else 0)) + 1 else if n = b + 1 then (if b + 1 = a + 1 then (0 + 1 : Int32) else 0) + 1 else if n = a + 1 then (0 + 1 : Int32) else 0) := by
  have j0 : ((own_iushr (g 0) k) + (1 : Int32)).toNatClampNeg = a + 1 := own_cl (own_add1 _ a 1 h0 (by omega) (by decide))
  have j1 : ((own_iushr (g 1) k) + (1 : Int32)).toNatClampNeg = b + 1 := own_cl (own_add1 _ b 1 h1 (by omega) (by decide))
  have j2 : ((own_iushr (g 2) k) + (1 : Int32)).toNatClampNeg = c + 1 := own_cl (own_add1 _ c 1 h2 (by omega) (by decide))
  subst e3 e2 e1
  simp only [own_set, j0, j1, j2]
  split
  · split <;> split <;> simp_all
  · rfl
theorem own_fin3 (a b c : Nat) (h : a ≤ b ∧ b ≤ c ∧ c ≤ 2) : (a, b, c) ∈ [(0,0,0),(0,0,1),(0,1,1),(1,1,1),(0,0,2),(0,1,2),(0,2,2),(1,1,2),(1,2,2),(2,2,2)] := by
  obtain ⟨h1, h2, h3⟩ := h
  have : a = 0 ∨ a = 1 ∨ a = 2 := by omega
  have : b = 0 ∨ b = 1 ∨ b = 2 := by omega
  have : c = 0 ∨ c = 1 ∨ c = 2 := by omega
  rcases ‹a = 0 ∨ a = 1 ∨ a = 2› with rfl | rfl | rfl <;> rcases ‹b = 0 ∨ b = 1 ∨ b = 2› with rfl | rfl | rfl <;> rcases ‹c = 0 ∨ c = 1 ∨ c = 2› with rfl | rfl | rfl <;> first | (exfalso; omega) | decide
section OwnBS
variable {g : Nat → Int32} {k : Int32} {f1 f2 f3 f4 f5 f6 : Nat → Int32}
theorem own_bspec2 (hp : own_okB g k) (hl : ((own_iushr (g 2) k) + (2 : Int32)) = (2 : Int32))
    (e1 : f1 = (own_set (fun _ => (0 : Int32)) ((own_iushr (g 0) k) + (1 : Int32)) (((fun _ => (0 : Int32)) ((own_iushr (g 0) k) + (1 : Int32)).toNatClampNeg) + (1 : Int32))))
    (e2 : f2 = (own_set f1 ((own_iushr (g 1) k) + (1 : Int32)) ((f1 ((own_iushr (g 1) k) + (1 : Int32)).toNatClampNeg) + (1 : Int32))))
    (e3 : f3 = (own_set f2 ((own_iushr (g 2) k) + (1 : Int32)) ((f2 ((own_iushr (g 2) k) + (1 : Int32)).toNatClampNeg) + (1 : Int32)))) (e4 : f4 = (own_set f3 (1 : Int32) ((f3 1) + (f3 0)))) : own_spB g k f4 := by
  obtain ⟨a, b, c, h0, h1, h2, q⟩ := hp
  have v := own_f3c h0 h1 h2 (by omega) e1 e2 e3
  have e' : ((own_iushr (g 2) k) + (2 : Int32)).toInt = ((c + 2 : Nat) : Int) := own_add1 _ c 2 h2 (by omega) (by decide)
  have l2 : ((own_iushr (g 2) k) + (2 : Int32)).toInt = 2 := by rw [hl]; decide
  intro n hn
  rw [l2] at hn
  rw [h0, h1, h2, e4]
  simp only [own_set, v, show (1 : Int32).toNatClampNeg = 1 from rfl]
  have m := own_fin3 a b c q
  simp only [List.mem_cons, Prod.mk.injEq, List.not_mem_nil, or_false] at m
  have : n = 0 ∨ n = 1 := by omega
  rcases m with ⟨rfl, rfl, rfl⟩ | ⟨rfl, rfl, rfl⟩ | ⟨rfl, rfl, rfl⟩ | ⟨rfl, rfl, rfl⟩ | ⟨rfl, rfl, rfl⟩ | ⟨rfl, rfl, rfl⟩ | ⟨rfl, rfl, rfl⟩ | ⟨rfl, rfl, rfl⟩ | ⟨rfl, rfl, rfl⟩ | ⟨rfl, rfl, rfl⟩ <;> first | (exfalso; omega) | (rcases this with rfl | rfl <;> decide)
theorem own_bspec3 (hp : own_okB g k) (hl : ((own_iushr (g 2) k) + (2 : Int32)) = (3 : Int32))
    (e1 : f1 = (own_set (fun _ => (0 : Int32)) ((own_iushr (g 0) k) + (1 : Int32)) (((fun _ => (0 : Int32)) ((own_iushr (g 0) k) + (1 : Int32)).toNatClampNeg) + (1 : Int32))))
    (e2 : f2 = (own_set f1 ((own_iushr (g 1) k) + (1 : Int32)) ((f1 ((own_iushr (g 1) k) + (1 : Int32)).toNatClampNeg) + (1 : Int32))))
    (e3 : f3 = (own_set f2 ((own_iushr (g 2) k) + (1 : Int32)) ((f2 ((own_iushr (g 2) k) + (1 : Int32)).toNatClampNeg) + (1 : Int32)))) (e4 : f4 = (own_set f3 (1 : Int32) ((f3 1) + (f3 0)))) (e5 : f5 = (own_set f4 (2 : Int32) ((f4 2) + (f4 1)))) : own_spB g k f5 := by
  obtain ⟨a, b, c, h0, h1, h2, q⟩ := hp
  have v := own_f3c h0 h1 h2 (by omega) e1 e2 e3
  have e' : ((own_iushr (g 2) k) + (2 : Int32)).toInt = ((c + 2 : Nat) : Int) := own_add1 _ c 2 h2 (by omega) (by decide)
  have l2 : ((own_iushr (g 2) k) + (2 : Int32)).toInt = 3 := by rw [hl]; decide
  intro n hn
  rw [l2] at hn
  rw [h0, h1, h2, e5, e4]
  simp only [own_set, v, show (1 : Int32).toNatClampNeg = 1 from rfl, show (2 : Int32).toNatClampNeg = 2 from rfl]
  have m := own_fin3 a b c q
  simp only [List.mem_cons, Prod.mk.injEq, List.not_mem_nil, or_false] at m
  have : n = 0 ∨ n = 1 ∨ n = 2 := by omega
  rcases m with ⟨rfl, rfl, rfl⟩ | ⟨rfl, rfl, rfl⟩ | ⟨rfl, rfl, rfl⟩ | ⟨rfl, rfl, rfl⟩ | ⟨rfl, rfl, rfl⟩ | ⟨rfl, rfl, rfl⟩ | ⟨rfl, rfl, rfl⟩ | ⟨rfl, rfl, rfl⟩ | ⟨rfl, rfl, rfl⟩ | ⟨rfl, rfl, rfl⟩ <;> first | (exfalso; omega) | (rcases this with rfl | rfl | rfl <;> decide)
theorem own_bspec4 (hp : own_okB g k) (hl : ((own_iushr (g 2) k) + (2 : Int32)) = (4 : Int32))
    (e1 : f1 = (own_set (fun _ => (0 : Int32)) ((own_iushr (g 0) k) + (1 : Int32)) (((fun _ => (0 : Int32)) ((own_iushr (g 0) k) + (1 : Int32)).toNatClampNeg) + (1 : Int32))))
    (e2 : f2 = (own_set f1 ((own_iushr (g 1) k) + (1 : Int32)) ((f1 ((own_iushr (g 1) k) + (1 : Int32)).toNatClampNeg) + (1 : Int32))))
    (e3 : f3 = (own_set f2 ((own_iushr (g 2) k) + (1 : Int32)) ((f2 ((own_iushr (g 2) k) + (1 : Int32)).toNatClampNeg) + (1 : Int32)))) (e4 : f4 = (own_set f3 (1 : Int32) ((f3 1) + (f3 0)))) (e5 : f5 = (own_set f4 (2 : Int32) ((f4 2) + (f4 1)))) (e6 : f6 = (own_set f5 (3 : Int32) ((f5 3) + (f5 2)))) : own_spB g k f6 := by
  obtain ⟨a, b, c, h0, h1, h2, q⟩ := hp
  have v := own_f3c h0 h1 h2 (by omega) e1 e2 e3
  have e' : ((own_iushr (g 2) k) + (2 : Int32)).toInt = ((c + 2 : Nat) : Int) := own_add1 _ c 2 h2 (by omega) (by decide)
  have l2 : ((own_iushr (g 2) k) + (2 : Int32)).toInt = 4 := by rw [hl]; decide
  intro n hn
  rw [l2] at hn
  rw [h0, h1, h2, e6, e5, e4]
  simp only [own_set, v, show (1 : Int32).toNatClampNeg = 1 from rfl, show (2 : Int32).toNatClampNeg = 2 from rfl, show (3 : Int32).toNatClampNeg = 3 from rfl]
  have m := own_fin3 a b c q
  simp only [List.mem_cons, Prod.mk.injEq, List.not_mem_nil, or_false] at m
  have : n = 0 ∨ n = 1 ∨ n = 2 ∨ n = 3 := by omega
  rcases m with ⟨rfl, rfl, rfl⟩ | ⟨rfl, rfl, rfl⟩ | ⟨rfl, rfl, rfl⟩ | ⟨rfl, rfl, rfl⟩ | ⟨rfl, rfl, rfl⟩ | ⟨rfl, rfl, rfl⟩ | ⟨rfl, rfl, rfl⟩ | ⟨rfl, rfl, rfl⟩ | ⟨rfl, rfl, rfl⟩ | ⟨rfl, rfl, rfl⟩ <;> first | (exfalso; omega) | (rcases this with rfl | rfl | rfl | rfl <;> decide)
end OwnBS

theorem own_pd8 : parseMethodDescriptor "(II)I" = some ⟨[.int, .int], some .int⟩ := by decide +kernel
theorem d4_0 : decode prog_2_method_2_code 0 = .ok (.aload_n 0, 1) := by decide +kernel
theorem d4_1 : decode prog_2_method_2_code 1 = .ok (.arraylength, 1) := by decide +kernel
theorem d4_2 : decode prog_2_method_2_code 2 = .ok (.ifCond .ne 7, 3) := by decide +kernel
theorem d4_9 : decode prog_2_method_2_code 9 = .ok (.aload_n 0, 1) := by decide +kernel
theorem d4_10 : decode prog_2_method_2_code 10 = .ok (.aload_n 0, 1) := by decide +kernel
theorem d4_11 : decode prog_2_method_2_code 11 = .ok (.arraylength, 1) := by decide +kernel
theorem d4_12 : decode prog_2_method_2_code 12 = .ok (.iconst 1, 1) := by decide +kernel
theorem d4_13 : decode prog_2_method_2_code 13 = .ok (.isub, 1) := by decide +kernel
theorem d4_14 : decode prog_2_method_2_code 14 = .ok (.iaload, 1) := by decide +kernel
theorem d4_15 : decode prog_2_method_2_code 15 = .ok (.istore_n 1, 1) := by decide +kernel
theorem d4_16 : decode prog_2_method_2_code 16 = .ok (.iconst 0, 1) := by decide +kernel
theorem d4_17 : decode prog_2_method_2_code 17 = .ok (.istore_n 2, 1) := by decide +kernel
theorem d4_18 : decode prog_2_method_2_code 18 = .ok (.iload_n 1, 1) := by decide +kernel
theorem d4_19 : decode prog_2_method_2_code 19 = .ok (.iload_n 2, 1) := by decide +kernel
theorem d4_20 : decode prog_2_method_2_code 20 = .ok (.iushr, 1) := by decide +kernel
theorem d4_21 : decode prog_2_method_2_code 21 = .ok (.aload_n 0, 1) := by decide +kernel
theorem d4_22 : decode prog_2_method_2_code 22 = .ok (.arraylength, 1) := by decide +kernel
theorem d4_23 : decode prog_2_method_2_code 23 = .ok (.iconst 1, 1) := by decide +kernel
theorem d4_24 : decode prog_2_method_2_code 24 = .ok (.invokestatic 45, 3) := by decide +kernel
theorem d4_27 : decode prog_2_method_2_code 27 = .ok (.if_icmp .lt 9, 3) := by decide +kernel
theorem d4_30 : decode prog_2_method_2_code 30 = .ok (.iinc 2 1, 3) := by decide +kernel
theorem d4_33 : decode prog_2_method_2_code 33 = .ok (.goto (-15), 3) := by decide +kernel
theorem d4_36 : decode prog_2_method_2_code 36 = .ok (.iload_n 2, 1) := by decide +kernel
theorem d4_37 : decode prog_2_method_2_code 37 = .ok (.ireturn, 1) := by decide +kernel
theorem pn_4 : plainName "com/example/reachability/reachability/CandidateList" = true := by first | (simp [plainName, overriddenIn]; done) | decide +kernel
theorem ef_4 (m : MethodId) (r0 : Addr) : entryFrame m #[(.ref r0)] 3 = mkF m 0 #[.val (.ref r0), .unset, .unset] [] := by first | (simp [entryFrame, mkF, argsToLocals, Value.category]; done) | rfl
def rm4_room : Room := { frames := 1, cells := 0, slots := 0, locals := 14 }
def own_f4 (xg : Nat → Int32) : Int32 := (if (own_iushr (xg 2) (0 : Int32)) < (own_f5 (3 : Int32) (1 : Int32)) then ((0 : Int32)) else ((if (own_iushr (xg 2) (1 : Int32)) < (own_f5 (3 : Int32) (1 : Int32)) then ((1 : Int32)) else ((if (own_iushr (xg 2) (2 : Int32)) < (own_f5 (3 : Int32) (1 : Int32)) then ((2 : Int32)) else ((if (own_iushr (xg 2) (3 : Int32)) < (own_f5 (3 : Int32) (1 : Int32)) then ((3 : Int32)) else ((4 : Int32)))))))))
def Qrm4 (Z : State) (r0 : Addr) (xg : Nat → Int32) (h0 : Heap) (n0 : Nat) (v : Option Value) (h : Heap) (L : List Loc) : Prop := v = some (.int (own_f4 xg)) ∧ Fr n0 L ∧ h = h0
theorem own_lf_own_f4_1 {xg : Nat → Int32} (hc2 : (own_iushr (xg 2) (0 : Int32)) < (own_f5 (3 : Int32) (1 : Int32))) : (some (.int (0 : Int32)) : Option Value) = some (.int (own_f4 xg)) := by
  first | (simp only [own_f4, if_pos hc2]; done) | (simp only [own_f4, if_pos hc2]; rfl) | rfl
theorem own_lf_own_f4_2 {xg : Nat → Int32} (hc2 : ¬ ((own_iushr (xg 2) (0 : Int32)) < (own_f5 (3 : Int32) (1 : Int32)))) (hc4 : (own_iushr (xg 2) (1 : Int32)) < (own_f5 (3 : Int32) (1 : Int32))) : (some (.int (1 : Int32)) : Option Value) = some (.int (own_f4 xg)) := by
  first | (simp only [own_f4, if_neg hc2, if_pos hc4]; done) | (simp only [own_f4, if_neg hc2, if_pos hc4]; rfl) | rfl
theorem own_lf_own_f4_3 {xg : Nat → Int32} (hc2 : ¬ ((own_iushr (xg 2) (0 : Int32)) < (own_f5 (3 : Int32) (1 : Int32)))) (hc4 : ¬ ((own_iushr (xg 2) (1 : Int32)) < (own_f5 (3 : Int32) (1 : Int32)))) (hc6 : (own_iushr (xg 2) (2 : Int32)) < (own_f5 (3 : Int32) (1 : Int32))) : (some (.int (2 : Int32)) : Option Value) = some (.int (own_f4 xg)) := by
  first | (simp only [own_f4, if_neg hc2, if_neg hc4, if_pos hc6]; done) | (simp only [own_f4, if_neg hc2, if_neg hc4, if_pos hc6]; rfl) | rfl
theorem own_lf_own_f4_4 {xg : Nat → Int32} (hc2 : ¬ ((own_iushr (xg 2) (0 : Int32)) < (own_f5 (3 : Int32) (1 : Int32)))) (hc4 : ¬ ((own_iushr (xg 2) (1 : Int32)) < (own_f5 (3 : Int32) (1 : Int32)))) (hc6 : ¬ ((own_iushr (xg 2) (2 : Int32)) < (own_f5 (3 : Int32) (1 : Int32)))) (hc8 : (own_iushr (xg 2) (3 : Int32)) < (own_f5 (3 : Int32) (1 : Int32))) : (some (.int (3 : Int32)) : Option Value) = some (.int (own_f4 xg)) := by
  first | (simp only [own_f4, if_neg hc2, if_neg hc4, if_neg hc6, if_pos hc8]; done) | (simp only [own_f4, if_neg hc2, if_neg hc4, if_neg hc6, if_pos hc8]; rfl) | rfl
theorem own_lf_own_f4_5 {xg : Nat → Int32} (hc2 : ¬ ((own_iushr (xg 2) (0 : Int32)) < (own_f5 (3 : Int32) (1 : Int32)))) (hc4 : ¬ ((own_iushr (xg 2) (1 : Int32)) < (own_f5 (3 : Int32) (1 : Int32)))) (hc6 : ¬ ((own_iushr (xg 2) (2 : Int32)) < (own_f5 (3 : Int32) (1 : Int32)))) (hc8 : ¬ ((own_iushr (xg 2) (3 : Int32)) < (own_f5 (3 : Int32) (1 : Int32)))) : (some (.int (4 : Int32)) : Option Value) = some (.int (own_f4 xg)) := by
  first | (simp only [own_f4, if_neg hc2, if_neg hc4, if_neg hc6, if_neg hc8]; done) | (simp only [own_f4, if_neg hc2, if_neg hc4, if_neg hc6, if_neg hc8]; rfl) | rfl
set_option maxRecDepth 65536 in
set_option maxHeartbeats 40000000 in
theorem rm4 (l : Launch) (Z : State) (a0 : Array Value) (hw : ∀ d ∈ tables_1, d.before a0 Z = true) (ws : List Jvm.Cond) (r0 : Addr) (xg : Nat → Int32) (h0 : Heap) (n0 : Nat) (Z0 : n0 ≤ h0.size) (A_r0_0 : own_Arf Z h0 r0 .int (3 : Int32) (fun i => .int (xg i))) (hp : 0 ≤ (xg 2).toInt ∧ (xg 2).toInt < 48) :
    MetFree l (⟨"com/example/reachability/reachability/CandidateList", "bucketShift", "([I)I"⟩ : MethodName) (head1 (Jvm.Cond.code (⟨"com/example/reachability/reachability/CandidateList", "bucketShift", "([I)I"⟩ : MethodName) prog_2_method_2_code 3 (some .int) :: ws) rm4_room) (fun a U => a = #[(.ref r0)] ∧ Z.Warmed39 U.vm ∧ U.heap = h0) (fun _ _ _ _ _ => True) (fun _ U o U' => ∃ v L, o = .returned v ∧ Qrm4 Z r0 xg h0 n0 v U'.heap L ∧ FrameEnd U o U' L rm4_room.cells rm4_room.slots) := by
  refine MetFree.of_bodySF (plainFor_of_name pn_4) hisR ?_
  intro p e s m args below meth c s₁ Bd hml0 hP hK
  obtain ⟨rfl, hZ, hh⟩ := hP
  have hx := Bd.exec
  have hby := Bd.bytes
  have hml : c.maxLocals = 3 := hml0
  have hown : s.vm.findClass "com/example/reachability/reachability/CandidateList" = some m.cls := findClass_of_methodNamed Bd.named
  have hnm := (name_of_methodNamed Bd.named Bd.method).1
  have hlk : meth.locks = false := BodyLoose.notSynchronized Bd
  have X0 : Stand p l e rm4_room s m #[(.ref r0)] below meth c s₁ [] 0 0 := Stand.of_body Bd
  have e0 : s₁.heap = h0 := by rw [← hh, Bd.state]; rfl
  have N0 := Fr.nil n0
  show own_Fin p.tables e below s (Qrm4 Z r0 xg h0 n0) rm4_room.cells rm4_room.slots (s₁.setTop (entryFrame m #[(.ref r0)] 3))
  rw [ef_4]
  show own_Fin _ _ _ _ _ _ _ (s₁.setTop (mkF m 0 #[.val (.ref r0), .unset, .unset] []))
  refine own_go (fun _ k => XS.aloadN X0.here hx rfl (hb hby d4_0) rfl rfl k) ?_
  show own_Fin _ _ _ _ _ _ _ (s₁.setTop (mkF m 1 #[.val (.ref r0), .unset, .unset] [(.ref r0)]))
  refine own_go (fun tg k => own_alen X0 hx hZ e0 A_r0_0 (g := (mkF m 1 #[.val (.ref r0), .unset, .unset] [(.ref r0)])) rfl rfl (hb hby d4_1) tg k) ?_
  show own_Fin _ _ _ _ _ _ _ (s₁.setTop (mkF m 2 #[.val (.ref r0), .unset, .unset] [(.int (3 : Int32))]))
  refine own_go (fun _ k => XS.ifYes X0.here hx rfl (pc0 := 2) (pc' := 9) rfl (hb hby d4_2) rfl ((if0 _ _).trans (feq (by decide)).2) (by decide) (by decide) k) ?_
  show own_Fin _ _ _ _ _ _ _ (s₁.setTop (mkF m 9 #[.val (.ref r0), .unset, .unset] []))
  refine own_go (fun _ k => XS.aloadN X0.here hx rfl (hb hby d4_9) rfl rfl k) ?_
  show own_Fin _ _ _ _ _ _ _ (s₁.setTop (mkF m 10 #[.val (.ref r0), .unset, .unset] [(.ref r0)]))
  refine own_go (fun _ k => XS.aloadN X0.here hx rfl (hb hby d4_10) rfl rfl k) ?_
  show own_Fin _ _ _ _ _ _ _ (s₁.setTop (mkF m 11 #[.val (.ref r0), .unset, .unset] [(.ref r0), (.ref r0)]))
  refine own_go (fun tg k => own_alen X0 hx hZ e0 A_r0_0 (g := (mkF m 11 #[.val (.ref r0), .unset, .unset] [(.ref r0), (.ref r0)])) rfl rfl (hb hby d4_11) tg k) ?_
  show own_Fin _ _ _ _ _ _ _ (s₁.setTop (mkF m 12 #[.val (.ref r0), .unset, .unset] [(.int (3 : Int32)), (.ref r0)]))
  refine own_go (fun _ k => XS.iconst X0.here hx rfl (hb hby d4_12) k) ?_
  show own_Fin _ _ _ _ _ _ _ (s₁.setTop (mkF m 13 #[.val (.ref r0), .unset, .unset] [(.int (1 : Int32)), (.int (3 : Int32)), (.ref r0)]))
  refine own_go (fun _ k => XS.isub X0.here hx rfl (hb hby d4_13) rfl k) ?_
  show own_Fin _ _ _ _ _ _ _ (s₁.setTop (mkF m 14 #[.val (.ref r0), .unset, .unset] [(.int (2 : Int32)), (.ref r0)]))
  refine own_go (fun tg k => own_iaload X0 hx hZ e0 A_r0_0 (j := (2 : Int32)) ⟨by decide, by decide⟩ (x := (xg 2)) rfl (g := (mkF m 14 #[.val (.ref r0), .unset, .unset] [(.int (2 : Int32)), (.ref r0)])) rfl rfl (hb hby d4_14) tg k) ?_
  show own_Fin _ _ _ _ _ _ _ (s₁.setTop (mkF m 15 #[.val (.ref r0), .unset, .unset] [(.int (xg 2))]))
  refine own_go (fun _ k => XS.istoreN X0.here hx rfl (hb hby d4_15) rfl (l' := #[.val (.ref r0), .val (.int (xg 2)), .unset]) rfl k) ?_
  show own_Fin _ _ _ _ _ _ _ (s₁.setTop (mkF m 16 #[.val (.ref r0), .val (.int (xg 2)), .unset] []))
  refine own_go (fun _ k => XS.iconst X0.here hx rfl (hb hby d4_16) k) ?_
  show own_Fin _ _ _ _ _ _ _ (s₁.setTop (mkF m 17 #[.val (.ref r0), .val (.int (xg 2)), .unset] [(.int (0 : Int32))]))
  refine own_go (fun _ k => XS.istoreN X0.here hx rfl (hb hby d4_17) rfl (l' := #[.val (.ref r0), .val (.int (xg 2)), .val (.int (0 : Int32))]) rfl k) ?_
  show own_Fin _ _ _ _ _ _ _ (s₁.setTop (mkF m 18 #[.val (.ref r0), .val (.int (xg 2)), .val (.int (0 : Int32))] []))
  refine own_go (fun _ k => XS.iloadN X0.here hx rfl (hb hby d4_18) rfl k) ?_
  show own_Fin _ _ _ _ _ _ _ (s₁.setTop (mkF m 19 #[.val (.ref r0), .val (.int (xg 2)), .val (.int (0 : Int32))] [(.int (xg 2))]))
  refine own_go (fun _ k => XS.iloadN X0.here hx rfl (hb hby d4_19) rfl k) ?_
  show own_Fin _ _ _ _ _ _ _ (s₁.setTop (mkF m 20 #[.val (.ref r0), .val (.int (xg 2)), .val (.int (0 : Int32))] [(.int (0 : Int32)), (.int (xg 2))]))
  refine own_go (fun _ k => XS.iushr X0.here hx rfl (hb hby d4_20) rfl k) ?_
  show own_Fin _ _ _ _ _ _ _ (s₁.setTop (mkF m 21 #[.val (.ref r0), .val (.int (xg 2)), .val (.int (0 : Int32))] [(.int (own_iushr (xg 2) (0 : Int32)))]))
  refine own_go (fun _ k => XS.aloadN X0.here hx rfl (hb hby d4_21) rfl rfl k) ?_
  show own_Fin _ _ _ _ _ _ _ (s₁.setTop (mkF m 22 #[.val (.ref r0), .val (.int (xg 2)), .val (.int (0 : Int32))] [(.ref r0), (.int (own_iushr (xg 2) (0 : Int32)))]))
  refine own_go (fun tg k => own_alen X0 hx hZ e0 A_r0_0 (g := (mkF m 22 #[.val (.ref r0), .val (.int (xg 2)), .val (.int (0 : Int32))] [(.ref r0), (.int (own_iushr (xg 2) (0 : Int32)))])) rfl rfl (hb hby d4_22) tg k) ?_
  show own_Fin _ _ _ _ _ _ _ (s₁.setTop (mkF m 23 #[.val (.ref r0), .val (.int (xg 2)), .val (.int (0 : Int32))] [(.int (3 : Int32)), (.int (own_iushr (xg 2) (0 : Int32)))]))
  refine own_go (fun _ k => XS.iconst X0.here hx rfl (hb hby d4_23) k) ?_
  show own_Fin _ _ _ _ _ _ _ (s₁.setTop (mkF m 24 #[.val (.ref r0), .val (.int (xg 2)), .val (.int (0 : Int32))] [(.int (1 : Int32)), (.int (3 : Int32)), (.int (own_iushr (xg 2) (0 : Int32)))]))
  obtain ⟨_, _, ⟨T1, L1, k1, n1⟩, -, X1, ⟨Lc1, hQ1, l1, y1, z1⟩, st1⟩ := Jvm.LawKit.callS X0 hx (y := (⟨"java/lang/Math", "max", "(II)I"⟩ : MethodName)) hown (mvT hZ (hw _ (List.mem_of_getElem? (i := 31) rfl))) (mvT hZ (hw _ (List.mem_of_getElem? (i := 32) rfl))) (mvT hZ (hw _ (List.mem_of_getElem? (i := 33) rfl))) (mvT hZ (hw _ (List.mem_of_getElem? (i := 34) rfl))) (by decide) (backOf (W := 1) (rm5 l Z a0 hw [] (3 : Int32) (1 : Int32) h0 n0 Z0) hZ (hw _ (List.mem_of_getElem? (i := 34) rfl)) (hw _ (List.mem_of_getElem? (i := 33) rfl)) (by decide) (by decide)) (g := (mkF m 24 #[.val (.ref r0), .val (.int (xg 2)), .val (.int (0 : Int32))] [(.int (1 : Int32)), (.int (3 : Int32)), (.int (own_iushr (xg 2) (0 : Int32)))])) rfl (by rw [hml]; rfl) (argsL := [(.int (3 : Int32)), (.int (1 : Int32))]) (rest := [(.int (own_iushr (xg 2) (0 : Int32)))]) (lenOf own_pd8 rfl) rfl (by show 2 * 0 + _ ≤ _; exact Nat.le_of_eq rfl) (hb hby d4_24) (fun _ _ => ⟨rfl, e0, (by decide : 0 + 0 ≤ _), (by decide : 0 + 0 ≤ _)⟩)
  dsimp only [Pt.U, Pt.locs, Pt.cells, Pt.slots] at X1 l1 y1 z1 st1 hQ1
  replace y1 : 0 = k1 := y1.symm
  replace z1 : 0 = n1 := z1.symm
  subst y1 z1
  obtain ⟨rfl, N1q, e1⟩ := hQ1
  have N1 : Fr n0 L1 := by rw [l1]; exact Fr.app N0 N1q
  refine own_go (fun tg k => st1 tg k) ?_
  show own_Fin _ _ _ _ _ _ _ (T1.setTop (mkF m 27 #[.val (.ref r0), .val (.int (xg 2)), .val (.int (0 : Int32))] [(.int (own_f5 (3 : Int32) (1 : Int32))), (.int (own_iushr (xg 2) (0 : Int32)))]))
  by_cases hc2 : (own_iushr (xg 2) (0 : Int32)) < (own_f5 (3 : Int32) (1 : Int32))
  · refine own_go (fun _ k => XS.icmpYes X1.here hx rfl (pc0 := 27) (pc' := 36) rfl (hb hby d4_27) rfl (tlt hc2).1 (by decide) (by decide) k) ?_
    show own_Fin _ _ _ _ _ _ _ (T1.setTop (mkF m 36 #[.val (.ref r0), .val (.int (xg 2)), .val (.int (0 : Int32))] []))
    refine own_go (fun _ k => XS.iloadN X1.here hx rfl (hb hby d4_36) rfl k) ?_
    show own_Fin _ _ _ _ _ _ _ (T1.setTop (mkF m 37 #[.val (.ref r0), .val (.int (xg 2)), .val (.int (0 : Int32))] [(.int (0 : Int32))]))
    refine own_ret X1 hx hlk Bd.returns rfl (Or.inl ⟨rfl, by simp, _, rfl⟩) (hb hby d4_37) (Nat.le_of_ble_eq_true rfl) (Nat.le_of_ble_eq_true rfl) ?_
    refine ⟨(own_lf_own_f4_1 (xg := xg) hc2), N1, e1⟩
  · refine own_go (fun _ k => XS.icmpNo X1.here hx rfl (hb hby d4_27) rfl (flt hc2).1 k) ?_
    show own_Fin _ _ _ _ _ _ _ (T1.setTop (mkF m 30 #[.val (.ref r0), .val (.int (xg 2)), .val (.int (0 : Int32))] []))
    refine own_go (fun _ k => XS.iinc X1.here hx rfl (hb hby d4_30) rfl (l' := #[.val (.ref r0), .val (.int (xg 2)), .val (.int (1 : Int32))]) rfl k) ?_
    show own_Fin _ _ _ _ _ _ _ (T1.setTop (mkF m 33 #[.val (.ref r0), .val (.int (xg 2)), .val (.int (1 : Int32))] []))
    refine own_go (fun _ k => XS.goto X1.here hx rfl (pc0 := 33) (pc' := 18) rfl (hb hby d4_33) (by decide) (by decide) k) ?_
    show own_Fin _ _ _ _ _ _ _ (T1.setTop (mkF m 18 #[.val (.ref r0), .val (.int (xg 2)), .val (.int (1 : Int32))] []))
    refine own_go (fun _ k => XS.iloadN X1.here hx rfl (hb hby d4_18) rfl k) ?_
    show own_Fin _ _ _ _ _ _ _ (T1.setTop (mkF m 19 #[.val (.ref r0), .val (.int (xg 2)), .val (.int (1 : Int32))] [(.int (xg 2))]))
    refine own_go (fun _ k => XS.iloadN X1.here hx rfl (hb hby d4_19) rfl k) ?_
    show own_Fin _ _ _ _ _ _ _ (T1.setTop (mkF m 20 #[.val (.ref r0), .val (.int (xg 2)), .val (.int (1 : Int32))] [(.int (1 : Int32)), (.int (xg 2))]))
    refine own_go (fun _ k => XS.iushr X1.here hx rfl (hb hby d4_20) rfl k) ?_
    show own_Fin _ _ _ _ _ _ _ (T1.setTop (mkF m 21 #[.val (.ref r0), .val (.int (xg 2)), .val (.int (1 : Int32))] [(.int (own_iushr (xg 2) (1 : Int32)))]))
    refine own_go (fun _ k => XS.aloadN X1.here hx rfl (hb hby d4_21) rfl rfl k) ?_
    show own_Fin _ _ _ _ _ _ _ (T1.setTop (mkF m 22 #[.val (.ref r0), .val (.int (xg 2)), .val (.int (1 : Int32))] [(.ref r0), (.int (own_iushr (xg 2) (1 : Int32)))]))
    refine own_go (fun tg k => own_alen X1 hx hZ e1 A_r0_0 (g := (mkF m 22 #[.val (.ref r0), .val (.int (xg 2)), .val (.int (1 : Int32))] [(.ref r0), (.int (own_iushr (xg 2) (1 : Int32)))])) rfl rfl (hb hby d4_22) tg k) ?_
    show own_Fin _ _ _ _ _ _ _ (T1.setTop (mkF m 23 #[.val (.ref r0), .val (.int (xg 2)), .val (.int (1 : Int32))] [(.int (3 : Int32)), (.int (own_iushr (xg 2) (1 : Int32)))]))
    refine own_go (fun _ k => XS.iconst X1.here hx rfl (hb hby d4_23) k) ?_
    show own_Fin _ _ _ _ _ _ _ (T1.setTop (mkF m 24 #[.val (.ref r0), .val (.int (xg 2)), .val (.int (1 : Int32))] [(.int (1 : Int32)), (.int (3 : Int32)), (.int (own_iushr (xg 2) (1 : Int32)))]))
    obtain ⟨_, _, ⟨T3, L3, k3, n3⟩, -, X3, ⟨Lc3, hQ3, l3, y3, z3⟩, st3⟩ := Jvm.LawKit.callS X1 hx (y := (⟨"java/lang/Math", "max", "(II)I"⟩ : MethodName)) hown (mvT hZ (hw _ (List.mem_of_getElem? (i := 31) rfl))) (mvT hZ (hw _ (List.mem_of_getElem? (i := 32) rfl))) (mvT hZ (hw _ (List.mem_of_getElem? (i := 33) rfl))) (mvT hZ (hw _ (List.mem_of_getElem? (i := 34) rfl))) (by decide) (backOf (W := 1) (rm5 l Z a0 hw [] (3 : Int32) (1 : Int32) h0 n0 Z0) hZ (hw _ (List.mem_of_getElem? (i := 34) rfl)) (hw _ (List.mem_of_getElem? (i := 33) rfl)) (by decide) (by decide)) (g := (mkF m 24 #[.val (.ref r0), .val (.int (xg 2)), .val (.int (1 : Int32))] [(.int (1 : Int32)), (.int (3 : Int32)), (.int (own_iushr (xg 2) (1 : Int32)))])) rfl (by rw [hml]; rfl) (argsL := [(.int (3 : Int32)), (.int (1 : Int32))]) (rest := [(.int (own_iushr (xg 2) (1 : Int32)))]) (lenOf own_pd8 rfl) rfl (by show 2 * 0 + _ ≤ _; exact Nat.le_of_eq rfl) (hb hby d4_24) (fun _ _ => ⟨rfl, e1, (by decide : 0 + 0 ≤ _), (by decide : 0 + 0 ≤ _)⟩)
    dsimp only [Pt.U, Pt.locs, Pt.cells, Pt.slots] at X3 l3 y3 z3 st3 hQ3
    replace y3 : 0 = k3 := y3.symm
    replace z3 : 0 = n3 := z3.symm
    subst y3 z3
    obtain ⟨rfl, N3q, e3⟩ := hQ3
    have N3 : Fr n0 L3 := by rw [l3]; exact Fr.app N1 N3q
    refine own_go (fun tg k => st3 tg k) ?_
    show own_Fin _ _ _ _ _ _ _ (T3.setTop (mkF m 27 #[.val (.ref r0), .val (.int (xg 2)), .val (.int (1 : Int32))] [(.int (own_f5 (3 : Int32) (1 : Int32))), (.int (own_iushr (xg 2) (1 : Int32)))]))
    by_cases hc4 : (own_iushr (xg 2) (1 : Int32)) < (own_f5 (3 : Int32) (1 : Int32))
    · refine own_go (fun _ k => XS.icmpYes X3.here hx rfl (pc0 := 27) (pc' := 36) rfl (hb hby d4_27) rfl (tlt hc4).1 (by decide) (by decide) k) ?_
      show own_Fin _ _ _ _ _ _ _ (T3.setTop (mkF m 36 #[.val (.ref r0), .val (.int (xg 2)), .val (.int (1 : Int32))] []))
      refine own_go (fun _ k => XS.iloadN X3.here hx rfl (hb hby d4_36) rfl k) ?_
      show own_Fin _ _ _ _ _ _ _ (T3.setTop (mkF m 37 #[.val (.ref r0), .val (.int (xg 2)), .val (.int (1 : Int32))] [(.int (1 : Int32))]))
      refine own_ret X3 hx hlk Bd.returns rfl (Or.inl ⟨rfl, by simp, _, rfl⟩) (hb hby d4_37) (Nat.le_of_ble_eq_true rfl) (Nat.le_of_ble_eq_true rfl) ?_
      refine ⟨(own_lf_own_f4_2 (xg := xg) hc2 hc4), N3, e3⟩
    · refine own_go (fun _ k => XS.icmpNo X3.here hx rfl (hb hby d4_27) rfl (flt hc4).1 k) ?_
      show own_Fin _ _ _ _ _ _ _ (T3.setTop (mkF m 30 #[.val (.ref r0), .val (.int (xg 2)), .val (.int (1 : Int32))] []))
      refine own_go (fun _ k => XS.iinc X3.here hx rfl (hb hby d4_30) rfl (l' := #[.val (.ref r0), .val (.int (xg 2)), .val (.int (2 : Int32))]) rfl k) ?_
      show own_Fin _ _ _ _ _ _ _ (T3.setTop (mkF m 33 #[.val (.ref r0), .val (.int (xg 2)), .val (.int (2 : Int32))] []))
      refine own_go (fun _ k => XS.goto X3.here hx rfl (pc0 := 33) (pc' := 18) rfl (hb hby d4_33) (by decide) (by decide) k) ?_
      show own_Fin _ _ _ _ _ _ _ (T3.setTop (mkF m 18 #[.val (.ref r0), .val (.int (xg 2)), .val (.int (2 : Int32))] []))
      refine own_go (fun _ k => XS.iloadN X3.here hx rfl (hb hby d4_18) rfl k) ?_
      show own_Fin _ _ _ _ _ _ _ (T3.setTop (mkF m 19 #[.val (.ref r0), .val (.int (xg 2)), .val (.int (2 : Int32))] [(.int (xg 2))]))
      refine own_go (fun _ k => XS.iloadN X3.here hx rfl (hb hby d4_19) rfl k) ?_
      show own_Fin _ _ _ _ _ _ _ (T3.setTop (mkF m 20 #[.val (.ref r0), .val (.int (xg 2)), .val (.int (2 : Int32))] [(.int (2 : Int32)), (.int (xg 2))]))
      refine own_go (fun _ k => XS.iushr X3.here hx rfl (hb hby d4_20) rfl k) ?_
      show own_Fin _ _ _ _ _ _ _ (T3.setTop (mkF m 21 #[.val (.ref r0), .val (.int (xg 2)), .val (.int (2 : Int32))] [(.int (own_iushr (xg 2) (2 : Int32)))]))
      refine own_go (fun _ k => XS.aloadN X3.here hx rfl (hb hby d4_21) rfl rfl k) ?_
      show own_Fin _ _ _ _ _ _ _ (T3.setTop (mkF m 22 #[.val (.ref r0), .val (.int (xg 2)), .val (.int (2 : Int32))] [(.ref r0), (.int (own_iushr (xg 2) (2 : Int32)))]))
      refine own_go (fun tg k => own_alen X3 hx hZ e3 A_r0_0 (g := (mkF m 22 #[.val (.ref r0), .val (.int (xg 2)), .val (.int (2 : Int32))] [(.ref r0), (.int (own_iushr (xg 2) (2 : Int32)))])) rfl rfl (hb hby d4_22) tg k) ?_
      show own_Fin _ _ _ _ _ _ _ (T3.setTop (mkF m 23 #[.val (.ref r0), .val (.int (xg 2)), .val (.int (2 : Int32))] [(.int (3 : Int32)), (.int (own_iushr (xg 2) (2 : Int32)))]))
      refine own_go (fun _ k => XS.iconst X3.here hx rfl (hb hby d4_23) k) ?_
      show own_Fin _ _ _ _ _ _ _ (T3.setTop (mkF m 24 #[.val (.ref r0), .val (.int (xg 2)), .val (.int (2 : Int32))] [(.int (1 : Int32)), (.int (3 : Int32)), (.int (own_iushr (xg 2) (2 : Int32)))]))
      obtain ⟨_, _, ⟨T5, L5, k5, n5⟩, -, X5, ⟨Lc5, hQ5, l5, y5, z5⟩, st5⟩ := Jvm.LawKit.callS X3 hx (y := (⟨"java/lang/Math", "max", "(II)I"⟩ : MethodName)) hown (mvT hZ (hw _ (List.mem_of_getElem? (i := 31) rfl))) (mvT hZ (hw _ (List.mem_of_getElem? (i := 32) rfl))) (mvT hZ (hw _ (List.mem_of_getElem? (i := 33) rfl))) (mvT hZ (hw _ (List.mem_of_getElem? (i := 34) rfl))) (by decide) (backOf (W := 1) (rm5 l Z a0 hw [] (3 : Int32) (1 : Int32) h0 n0 Z0) hZ (hw _ (List.mem_of_getElem? (i := 34) rfl)) (hw _ (List.mem_of_getElem? (i := 33) rfl)) (by decide) (by decide)) (g := (mkF m 24 #[.val (.ref r0), .val (.int (xg 2)), .val (.int (2 : Int32))] [(.int (1 : Int32)), (.int (3 : Int32)), (.int (own_iushr (xg 2) (2 : Int32)))])) rfl (by rw [hml]; rfl) (argsL := [(.int (3 : Int32)), (.int (1 : Int32))]) (rest := [(.int (own_iushr (xg 2) (2 : Int32)))]) (lenOf own_pd8 rfl) rfl (by show 2 * 0 + _ ≤ _; exact Nat.le_of_eq rfl) (hb hby d4_24) (fun _ _ => ⟨rfl, e3, (by decide : 0 + 0 ≤ _), (by decide : 0 + 0 ≤ _)⟩)
      dsimp only [Pt.U, Pt.locs, Pt.cells, Pt.slots] at X5 l5 y5 z5 st5 hQ5
      replace y5 : 0 = k5 := y5.symm
      replace z5 : 0 = n5 := z5.symm
      subst y5 z5
      obtain ⟨rfl, N5q, e5⟩ := hQ5
      have N5 : Fr n0 L5 := by rw [l5]; exact Fr.app N3 N5q
      refine own_go (fun tg k => st5 tg k) ?_
      show own_Fin _ _ _ _ _ _ _ (T5.setTop (mkF m 27 #[.val (.ref r0), .val (.int (xg 2)), .val (.int (2 : Int32))] [(.int (own_f5 (3 : Int32) (1 : Int32))), (.int (own_iushr (xg 2) (2 : Int32)))]))
      by_cases hc6 : (own_iushr (xg 2) (2 : Int32)) < (own_f5 (3 : Int32) (1 : Int32))
      · refine own_go (fun _ k => XS.icmpYes X5.here hx rfl (pc0 := 27) (pc' := 36) rfl (hb hby d4_27) rfl (tlt hc6).1 (by decide) (by decide) k) ?_
        show own_Fin _ _ _ _ _ _ _ (T5.setTop (mkF m 36 #[.val (.ref r0), .val (.int (xg 2)), .val (.int (2 : Int32))] []))
        refine own_go (fun _ k => XS.iloadN X5.here hx rfl (hb hby d4_36) rfl k) ?_
        show own_Fin _ _ _ _ _ _ _ (T5.setTop (mkF m 37 #[.val (.ref r0), .val (.int (xg 2)), .val (.int (2 : Int32))] [(.int (2 : Int32))]))
        refine own_ret X5 hx hlk Bd.returns rfl (Or.inl ⟨rfl, by simp, _, rfl⟩) (hb hby d4_37) (Nat.le_of_ble_eq_true rfl) (Nat.le_of_ble_eq_true rfl) ?_
        refine ⟨(own_lf_own_f4_3 (xg := xg) hc2 hc4 hc6), N5, e5⟩
      · refine own_go (fun _ k => XS.icmpNo X5.here hx rfl (hb hby d4_27) rfl (flt hc6).1 k) ?_
        show own_Fin _ _ _ _ _ _ _ (T5.setTop (mkF m 30 #[.val (.ref r0), .val (.int (xg 2)), .val (.int (2 : Int32))] []))
        refine own_go (fun _ k => XS.iinc X5.here hx rfl (hb hby d4_30) rfl (l' := #[.val (.ref r0), .val (.int (xg 2)), .val (.int (3 : Int32))]) rfl k) ?_
        show own_Fin _ _ _ _ _ _ _ (T5.setTop (mkF m 33 #[.val (.ref r0), .val (.int (xg 2)), .val (.int (3 : Int32))] []))
        refine own_go (fun _ k => XS.goto X5.here hx rfl (pc0 := 33) (pc' := 18) rfl (hb hby d4_33) (by decide) (by decide) k) ?_
        show own_Fin _ _ _ _ _ _ _ (T5.setTop (mkF m 18 #[.val (.ref r0), .val (.int (xg 2)), .val (.int (3 : Int32))] []))
        refine own_go (fun _ k => XS.iloadN X5.here hx rfl (hb hby d4_18) rfl k) ?_
        show own_Fin _ _ _ _ _ _ _ (T5.setTop (mkF m 19 #[.val (.ref r0), .val (.int (xg 2)), .val (.int (3 : Int32))] [(.int (xg 2))]))
        refine own_go (fun _ k => XS.iloadN X5.here hx rfl (hb hby d4_19) rfl k) ?_
        show own_Fin _ _ _ _ _ _ _ (T5.setTop (mkF m 20 #[.val (.ref r0), .val (.int (xg 2)), .val (.int (3 : Int32))] [(.int (3 : Int32)), (.int (xg 2))]))
        refine own_go (fun _ k => XS.iushr X5.here hx rfl (hb hby d4_20) rfl k) ?_
        show own_Fin _ _ _ _ _ _ _ (T5.setTop (mkF m 21 #[.val (.ref r0), .val (.int (xg 2)), .val (.int (3 : Int32))] [(.int (own_iushr (xg 2) (3 : Int32)))]))
        refine own_go (fun _ k => XS.aloadN X5.here hx rfl (hb hby d4_21) rfl rfl k) ?_
        show own_Fin _ _ _ _ _ _ _ (T5.setTop (mkF m 22 #[.val (.ref r0), .val (.int (xg 2)), .val (.int (3 : Int32))] [(.ref r0), (.int (own_iushr (xg 2) (3 : Int32)))]))
        refine own_go (fun tg k => own_alen X5 hx hZ e5 A_r0_0 (g := (mkF m 22 #[.val (.ref r0), .val (.int (xg 2)), .val (.int (3 : Int32))] [(.ref r0), (.int (own_iushr (xg 2) (3 : Int32)))])) rfl rfl (hb hby d4_22) tg k) ?_
        show own_Fin _ _ _ _ _ _ _ (T5.setTop (mkF m 23 #[.val (.ref r0), .val (.int (xg 2)), .val (.int (3 : Int32))] [(.int (3 : Int32)), (.int (own_iushr (xg 2) (3 : Int32)))]))
        refine own_go (fun _ k => XS.iconst X5.here hx rfl (hb hby d4_23) k) ?_
        show own_Fin _ _ _ _ _ _ _ (T5.setTop (mkF m 24 #[.val (.ref r0), .val (.int (xg 2)), .val (.int (3 : Int32))] [(.int (1 : Int32)), (.int (3 : Int32)), (.int (own_iushr (xg 2) (3 : Int32)))]))
        obtain ⟨_, _, ⟨T7, L7, k7, n7⟩, -, X7, ⟨Lc7, hQ7, l7, y7, z7⟩, st7⟩ := Jvm.LawKit.callS X5 hx (y := (⟨"java/lang/Math", "max", "(II)I"⟩ : MethodName)) hown (mvT hZ (hw _ (List.mem_of_getElem? (i := 31) rfl))) (mvT hZ (hw _ (List.mem_of_getElem? (i := 32) rfl))) (mvT hZ (hw _ (List.mem_of_getElem? (i := 33) rfl))) (mvT hZ (hw _ (List.mem_of_getElem? (i := 34) rfl))) (by decide) (backOf (W := 1) (rm5 l Z a0 hw [] (3 : Int32) (1 : Int32) h0 n0 Z0) hZ (hw _ (List.mem_of_getElem? (i := 34) rfl)) (hw _ (List.mem_of_getElem? (i := 33) rfl)) (by decide) (by decide)) (g := (mkF m 24 #[.val (.ref r0), .val (.int (xg 2)), .val (.int (3 : Int32))] [(.int (1 : Int32)), (.int (3 : Int32)), (.int (own_iushr (xg 2) (3 : Int32)))])) rfl (by rw [hml]; rfl) (argsL := [(.int (3 : Int32)), (.int (1 : Int32))]) (rest := [(.int (own_iushr (xg 2) (3 : Int32)))]) (lenOf own_pd8 rfl) rfl (by show 2 * 0 + _ ≤ _; exact Nat.le_of_eq rfl) (hb hby d4_24) (fun _ _ => ⟨rfl, e5, (by decide : 0 + 0 ≤ _), (by decide : 0 + 0 ≤ _)⟩)
        dsimp only [Pt.U, Pt.locs, Pt.cells, Pt.slots] at X7 l7 y7 z7 st7 hQ7
        replace y7 : 0 = k7 := y7.symm
        replace z7 : 0 = n7 := z7.symm
        subst y7 z7
        obtain ⟨rfl, N7q, e7⟩ := hQ7
        have N7 : Fr n0 L7 := by rw [l7]; exact Fr.app N5 N7q
        refine own_go (fun tg k => st7 tg k) ?_
        show own_Fin _ _ _ _ _ _ _ (T7.setTop (mkF m 27 #[.val (.ref r0), .val (.int (xg 2)), .val (.int (3 : Int32))] [(.int (own_f5 (3 : Int32) (1 : Int32))), (.int (own_iushr (xg 2) (3 : Int32)))]))
        by_cases hc8 : (own_iushr (xg 2) (3 : Int32)) < (own_f5 (3 : Int32) (1 : Int32))
        · refine own_go (fun _ k => XS.icmpYes X7.here hx rfl (pc0 := 27) (pc' := 36) rfl (hb hby d4_27) rfl (tlt hc8).1 (by decide) (by decide) k) ?_
          show own_Fin _ _ _ _ _ _ _ (T7.setTop (mkF m 36 #[.val (.ref r0), .val (.int (xg 2)), .val (.int (3 : Int32))] []))
          refine own_go (fun _ k => XS.iloadN X7.here hx rfl (hb hby d4_36) rfl k) ?_
          show own_Fin _ _ _ _ _ _ _ (T7.setTop (mkF m 37 #[.val (.ref r0), .val (.int (xg 2)), .val (.int (3 : Int32))] [(.int (3 : Int32))]))
          refine own_ret X7 hx hlk Bd.returns rfl (Or.inl ⟨rfl, by simp, _, rfl⟩) (hb hby d4_37) (Nat.le_of_ble_eq_true rfl) (Nat.le_of_ble_eq_true rfl) ?_
          refine ⟨(own_lf_own_f4_4 (xg := xg) hc2 hc4 hc6 hc8), N7, e7⟩
        · refine own_go (fun _ k => XS.icmpNo X7.here hx rfl (hb hby d4_27) rfl (flt hc8).1 k) ?_
          show own_Fin _ _ _ _ _ _ _ (T7.setTop (mkF m 30 #[.val (.ref r0), .val (.int (xg 2)), .val (.int (3 : Int32))] []))
          refine own_go (fun _ k => XS.iinc X7.here hx rfl (hb hby d4_30) rfl (l' := #[.val (.ref r0), .val (.int (xg 2)), .val (.int (4 : Int32))]) rfl k) ?_
          show own_Fin _ _ _ _ _ _ _ (T7.setTop (mkF m 33 #[.val (.ref r0), .val (.int (xg 2)), .val (.int (4 : Int32))] []))
          refine own_go (fun _ k => XS.goto X7.here hx rfl (pc0 := 33) (pc' := 18) rfl (hb hby d4_33) (by decide) (by decide) k) ?_
          show own_Fin _ _ _ _ _ _ _ (T7.setTop (mkF m 18 #[.val (.ref r0), .val (.int (xg 2)), .val (.int (4 : Int32))] []))
          refine own_go (fun _ k => XS.iloadN X7.here hx rfl (hb hby d4_18) rfl k) ?_
          show own_Fin _ _ _ _ _ _ _ (T7.setTop (mkF m 19 #[.val (.ref r0), .val (.int (xg 2)), .val (.int (4 : Int32))] [(.int (xg 2))]))
          refine own_go (fun _ k => XS.iloadN X7.here hx rfl (hb hby d4_19) rfl k) ?_
          show own_Fin _ _ _ _ _ _ _ (T7.setTop (mkF m 20 #[.val (.ref r0), .val (.int (xg 2)), .val (.int (4 : Int32))] [(.int (4 : Int32)), (.int (xg 2))]))
          refine own_go (fun _ k => XS.iushr X7.here hx rfl (hb hby d4_20) rfl k) ?_
          show own_Fin _ _ _ _ _ _ _ (T7.setTop (mkF m 21 #[.val (.ref r0), .val (.int (xg 2)), .val (.int (4 : Int32))] [(.int (own_iushr (xg 2) (4 : Int32)))]))
          refine own_go (fun _ k => XS.aloadN X7.here hx rfl (hb hby d4_21) rfl rfl k) ?_
          show own_Fin _ _ _ _ _ _ _ (T7.setTop (mkF m 22 #[.val (.ref r0), .val (.int (xg 2)), .val (.int (4 : Int32))] [(.ref r0), (.int (own_iushr (xg 2) (4 : Int32)))]))
          refine own_go (fun tg k => own_alen X7 hx hZ e7 A_r0_0 (g := (mkF m 22 #[.val (.ref r0), .val (.int (xg 2)), .val (.int (4 : Int32))] [(.ref r0), (.int (own_iushr (xg 2) (4 : Int32)))])) rfl rfl (hb hby d4_22) tg k) ?_
          show own_Fin _ _ _ _ _ _ _ (T7.setTop (mkF m 23 #[.val (.ref r0), .val (.int (xg 2)), .val (.int (4 : Int32))] [(.int (3 : Int32)), (.int (own_iushr (xg 2) (4 : Int32)))]))
          refine own_go (fun _ k => XS.iconst X7.here hx rfl (hb hby d4_23) k) ?_
          show own_Fin _ _ _ _ _ _ _ (T7.setTop (mkF m 24 #[.val (.ref r0), .val (.int (xg 2)), .val (.int (4 : Int32))] [(.int (1 : Int32)), (.int (3 : Int32)), (.int (own_iushr (xg 2) (4 : Int32)))]))
          obtain ⟨_, _, ⟨T9, L9, k9, n9⟩, -, X9, ⟨Lc9, hQ9, l9, y9, z9⟩, st9⟩ := Jvm.LawKit.callS X7 hx (y := (⟨"java/lang/Math", "max", "(II)I"⟩ : MethodName)) hown (mvT hZ (hw _ (List.mem_of_getElem? (i := 31) rfl))) (mvT hZ (hw _ (List.mem_of_getElem? (i := 32) rfl))) (mvT hZ (hw _ (List.mem_of_getElem? (i := 33) rfl))) (mvT hZ (hw _ (List.mem_of_getElem? (i := 34) rfl))) (by decide) (backOf (W := 1) (rm5 l Z a0 hw [] (3 : Int32) (1 : Int32) h0 n0 Z0) hZ (hw _ (List.mem_of_getElem? (i := 34) rfl)) (hw _ (List.mem_of_getElem? (i := 33) rfl)) (by decide) (by decide)) (g := (mkF m 24 #[.val (.ref r0), .val (.int (xg 2)), .val (.int (4 : Int32))] [(.int (1 : Int32)), (.int (3 : Int32)), (.int (own_iushr (xg 2) (4 : Int32)))])) rfl (by rw [hml]; rfl) (argsL := [(.int (3 : Int32)), (.int (1 : Int32))]) (rest := [(.int (own_iushr (xg 2) (4 : Int32)))]) (lenOf own_pd8 rfl) rfl (by show 2 * 0 + _ ≤ _; exact Nat.le_of_eq rfl) (hb hby d4_24) (fun _ _ => ⟨rfl, e7, (by decide : 0 + 0 ≤ _), (by decide : 0 + 0 ≤ _)⟩)
          dsimp only [Pt.U, Pt.locs, Pt.cells, Pt.slots] at X9 l9 y9 z9 st9 hQ9
          replace y9 : 0 = k9 := y9.symm
          replace z9 : 0 = n9 := z9.symm
          subst y9 z9
          obtain ⟨rfl, N9q, e9⟩ := hQ9
          have N9 : Fr n0 L9 := by rw [l9]; exact Fr.app N7 N9q
          refine own_go (fun tg k => st9 tg k) ?_
          show own_Fin _ _ _ _ _ _ _ (T9.setTop (mkF m 27 #[.val (.ref r0), .val (.int (xg 2)), .val (.int (4 : Int32))] [(.int (own_f5 (3 : Int32) (1 : Int32))), (.int (own_iushr (xg 2) (4 : Int32)))]))
          have hc27 : (own_iushr (xg 2) (4 : Int32)) < (own_f5 (3 : Int32) (1 : Int32)) := own_bs4 hp
          refine own_go (fun _ k => XS.icmpYes X9.here hx rfl (pc0 := 27) (pc' := 36) rfl (hb hby d4_27) rfl (tlt hc27).1 (by decide) (by decide) k) ?_
          show own_Fin _ _ _ _ _ _ _ (T9.setTop (mkF m 36 #[.val (.ref r0), .val (.int (xg 2)), .val (.int (4 : Int32))] []))
          refine own_go (fun _ k => XS.iloadN X9.here hx rfl (hb hby d4_36) rfl k) ?_
          show own_Fin _ _ _ _ _ _ _ (T9.setTop (mkF m 37 #[.val (.ref r0), .val (.int (xg 2)), .val (.int (4 : Int32))] [(.int (4 : Int32))]))
          refine own_ret X9 hx hlk Bd.returns rfl (Or.inl ⟨rfl, by simp, _, rfl⟩) (hb hby d4_37) (Nat.le_of_ble_eq_true rfl) (Nat.le_of_ble_eq_true rfl) ?_
          refine ⟨(own_lf_own_f4_5 (xg := xg) hc2 hc4 hc6 hc8), N9, e9⟩
theorem d6_0 : decode prog_2_method_3_code 0 = .ok (.aload_n 0, 1) := by decide +kernel
theorem d6_1 : decode prog_2_method_3_code 1 = .ok (.arraylength, 1) := by decide +kernel
theorem d6_2 : decode prog_2_method_3_code 2 = .ok (.ifCond .ne 7, 3) := by decide +kernel
theorem d6_9 : decode prog_2_method_3_code 9 = .ok (.aload_n 0, 1) := by decide +kernel
theorem d6_10 : decode prog_2_method_3_code 10 = .ok (.aload_n 0, 1) := by decide +kernel
theorem d6_11 : decode prog_2_method_3_code 11 = .ok (.arraylength, 1) := by decide +kernel
theorem d6_12 : decode prog_2_method_3_code 12 = .ok (.iconst 1, 1) := by decide +kernel
theorem d6_13 : decode prog_2_method_3_code 13 = .ok (.isub, 1) := by decide +kernel
theorem d6_14 : decode prog_2_method_3_code 14 = .ok (.iaload, 1) := by decide +kernel
theorem d6_15 : decode prog_2_method_3_code 15 = .ok (.istore_n 2, 1) := by decide +kernel
theorem d6_16 : decode prog_2_method_3_code 16 = .ok (.iload_n 2, 1) := by decide +kernel
theorem d6_17 : decode prog_2_method_3_code 17 = .ok (.iload_n 1, 1) := by decide +kernel
theorem d6_18 : decode prog_2_method_3_code 18 = .ok (.iushr, 1) := by decide +kernel
theorem d6_19 : decode prog_2_method_3_code 19 = .ok (.iconst 2, 1) := by decide +kernel
theorem d6_20 : decode prog_2_method_3_code 20 = .ok (.iadd, 1) := by decide +kernel
theorem d6_21 : decode prog_2_method_3_code 21 = .ok (.newarray .int, 2) := by decide +kernel
theorem d6_23 : decode prog_2_method_3_code 23 = .ok (.astore_n 3, 1) := by decide +kernel
theorem d6_24 : decode prog_2_method_3_code 24 = .ok (.aload_n 0, 1) := by decide +kernel
theorem d6_25 : decode prog_2_method_3_code 25 = .ok (.astore 4, 2) := by decide +kernel
theorem d6_27 : decode prog_2_method_3_code 27 = .ok (.aload 4, 2) := by decide +kernel
theorem d6_29 : decode prog_2_method_3_code 29 = .ok (.arraylength, 1) := by decide +kernel
theorem d6_30 : decode prog_2_method_3_code 30 = .ok (.istore 5, 2) := by decide +kernel
theorem d6_32 : decode prog_2_method_3_code 32 = .ok (.iconst 0, 1) := by decide +kernel
theorem d6_33 : decode prog_2_method_3_code 33 = .ok (.istore 6, 2) := by decide +kernel
theorem d6_35 : decode prog_2_method_3_code 35 = .ok (.iload 6, 2) := by decide +kernel
theorem d6_37 : decode prog_2_method_3_code 37 = .ok (.iload 5, 2) := by decide +kernel
theorem d6_39 : decode prog_2_method_3_code 39 = .ok (.if_icmp .ge 28, 3) := by decide +kernel
theorem d6_42 : decode prog_2_method_3_code 42 = .ok (.aload 4, 2) := by decide +kernel
theorem d6_44 : decode prog_2_method_3_code 44 = .ok (.iload 6, 2) := by decide +kernel
theorem d6_46 : decode prog_2_method_3_code 46 = .ok (.iaload, 1) := by decide +kernel
theorem d6_47 : decode prog_2_method_3_code 47 = .ok (.istore 7, 2) := by decide +kernel
theorem d6_49 : decode prog_2_method_3_code 49 = .ok (.aload_n 3, 1) := by decide +kernel
theorem d6_50 : decode prog_2_method_3_code 50 = .ok (.iload 7, 2) := by decide +kernel
theorem d6_52 : decode prog_2_method_3_code 52 = .ok (.iload_n 1, 1) := by decide +kernel
theorem d6_53 : decode prog_2_method_3_code 53 = .ok (.iushr, 1) := by decide +kernel
theorem d6_54 : decode prog_2_method_3_code 54 = .ok (.iconst 1, 1) := by decide +kernel
theorem d6_55 : decode prog_2_method_3_code 55 = .ok (.iadd, 1) := by decide +kernel
theorem d6_56 : decode prog_2_method_3_code 56 = .ok (.dup2, 1) := by decide +kernel
theorem d6_57 : decode prog_2_method_3_code 57 = .ok (.iaload, 1) := by decide +kernel
theorem d6_58 : decode prog_2_method_3_code 58 = .ok (.iconst 1, 1) := by decide +kernel
theorem d6_59 : decode prog_2_method_3_code 59 = .ok (.iadd, 1) := by decide +kernel
theorem d6_60 : decode prog_2_method_3_code 60 = .ok (.iastore, 1) := by decide +kernel
theorem d6_61 : decode prog_2_method_3_code 61 = .ok (.iinc 6 1, 3) := by decide +kernel
theorem d6_64 : decode prog_2_method_3_code 64 = .ok (.goto (-29), 3) := by decide +kernel
theorem d6_67 : decode prog_2_method_3_code 67 = .ok (.iconst 1, 1) := by decide +kernel
theorem d6_68 : decode prog_2_method_3_code 68 = .ok (.istore 4, 2) := by decide +kernel
theorem d6_70 : decode prog_2_method_3_code 70 = .ok (.iload 4, 2) := by decide +kernel
theorem d6_72 : decode prog_2_method_3_code 72 = .ok (.aload_n 3, 1) := by decide +kernel
theorem d6_73 : decode prog_2_method_3_code 73 = .ok (.arraylength, 1) := by decide +kernel
theorem d6_74 : decode prog_2_method_3_code 74 = .ok (.if_icmp .ge 22, 3) := by decide +kernel
theorem d6_77 : decode prog_2_method_3_code 77 = .ok (.aload_n 3, 1) := by decide +kernel
theorem d6_78 : decode prog_2_method_3_code 78 = .ok (.iload 4, 2) := by decide +kernel
theorem d6_80 : decode prog_2_method_3_code 80 = .ok (.dup2, 1) := by decide +kernel
theorem d6_81 : decode prog_2_method_3_code 81 = .ok (.iaload, 1) := by decide +kernel
theorem d6_82 : decode prog_2_method_3_code 82 = .ok (.aload_n 3, 1) := by decide +kernel
theorem d6_83 : decode prog_2_method_3_code 83 = .ok (.iload 4, 2) := by decide +kernel
theorem d6_85 : decode prog_2_method_3_code 85 = .ok (.iconst 1, 1) := by decide +kernel
theorem d6_86 : decode prog_2_method_3_code 86 = .ok (.isub, 1) := by decide +kernel
theorem d6_87 : decode prog_2_method_3_code 87 = .ok (.iaload, 1) := by decide +kernel
theorem d6_88 : decode prog_2_method_3_code 88 = .ok (.iadd, 1) := by decide +kernel
theorem d6_89 : decode prog_2_method_3_code 89 = .ok (.iastore, 1) := by decide +kernel
theorem d6_90 : decode prog_2_method_3_code 90 = .ok (.iinc 4 1, 3) := by decide +kernel
theorem d6_93 : decode prog_2_method_3_code 93 = .ok (.goto (-23), 3) := by decide +kernel
theorem d6_96 : decode prog_2_method_3_code 96 = .ok (.aload_n 3, 1) := by decide +kernel
theorem d6_97 : decode prog_2_method_3_code 97 = .ok (.areturn, 1) := by decide +kernel
theorem pn_6 : plainName "com/example/reachability/reachability/CandidateList" = true := by first | (simp [plainName, overriddenIn]; done) | decide +kernel
theorem ef_6 (m : MethodId) (r0 : Addr) (p1 : Int32) : entryFrame m #[(.ref r0), (.int p1)] 8 = mkF m 0 #[.val (.ref r0), .val (.int p1), .unset, .unset, .unset, .unset, .unset, .unset] [] := by first | (simp [entryFrame, mkF, argsToLocals, Value.category]; done) | rfl
def rm6_room : Room := { frames := 0, cells := 1, slots := 4, locals := 0 }
def Qrm6 (Z : State) (r0 : Addr) (p1 : Int32) (xg : Nat → Int32) (h0 : Heap) (n0 : Nat) (v : Option Value) (h : Heap) (L : List Loc) : Prop := ∃ rb : Addr, ∃ gB : Nat → Int32, v = some (.ref rb) ∧ Fr n0 L ∧ Keep h0 h [] ∧ h0.size ≤ rb ∧ own_Arf Z h rb .int ((own_iushr (xg 2) p1) + (2 : Int32)) (fun i => .int (gB i)) ∧ own_spB xg p1 gB
set_option maxRecDepth 65536 in
set_option maxHeartbeats 40000000 in
theorem rm6 (l : Launch) (Z : State) (a0 : Array Value) (hw : ∀ d ∈ tables_1, d.before a0 Z = true) (ws : List Jvm.Cond) (r0 : Addr) (p1 : Int32) (xg : Nat → Int32) (h0 : Heap) (n0 : Nat) (Z0 : n0 ≤ h0.size) (A_r0_0 : own_Arf Z h0 r0 .int (3 : Int32) (fun i => .int (xg i))) (hp : own_okB xg p1) :
    MetFree l (⟨"com/example/reachability/reachability/CandidateList", "bucketStarts", "([II)[I"⟩ : MethodName) (head1 (Jvm.Cond.code (⟨"com/example/reachability/reachability/CandidateList", "bucketStarts", "([II)[I"⟩ : MethodName) prog_2_method_3_code 8 (some (.array .int)) :: ws) rm6_room) (fun a U => a = #[(.ref r0), (.int p1)] ∧ Z.Warmed39 U.vm ∧ U.heap = h0) (fun _ _ _ _ _ => True) (fun _ U o U' => ∃ v L, o = .returned v ∧ Qrm6 Z r0 p1 xg h0 n0 v U'.heap L ∧ FrameEnd U o U' L rm6_room.cells rm6_room.slots) := by
  refine MetFree.of_bodySF (plainFor_of_name pn_6) hisR ?_
  intro p e s m args below meth c s₁ Bd hml0 hP hK
  obtain ⟨rfl, hZ, hh⟩ := hP
  have hx := Bd.exec
  have hby := Bd.bytes
  have hml : c.maxLocals = 8 := hml0
  have hown : s.vm.findClass "com/example/reachability/reachability/CandidateList" = some m.cls := findClass_of_methodNamed Bd.named
  have hnm := (name_of_methodNamed Bd.named Bd.method).1
  have hlk : meth.locks = false := BodyLoose.notSynchronized Bd
  have X0 : Stand p l e rm6_room s m #[(.ref r0), (.int p1)] below meth c s₁ [] 0 0 := Stand.of_body Bd
  have e0 : s₁.heap = h0 := by rw [← hh, Bd.state]; rfl
  have N0 := Fr.nil n0
  show own_Fin p.tables e below s (Qrm6 Z r0 p1 xg h0 n0) rm6_room.cells rm6_room.slots (s₁.setTop (entryFrame m #[(.ref r0), (.int p1)] 8))
  rw [ef_6]
  show own_Fin _ _ _ _ _ _ _ (s₁.setTop (mkF m 0 #[.val (.ref r0), .val (.int p1), .unset, .unset, .unset, .unset, .unset, .unset] []))
  have K0 := Keep.refl h0 []
  refine own_go (fun _ k => XS.aloadN X0.here hx rfl (hb hby d6_0) rfl rfl k) ?_
  refine own_go (fun tg k => own_alen X0 hx hZ e0 A_r0_0 (g := (mkF m 1 #[.val (.ref r0), .val (.int p1), .unset, .unset, .unset, .unset, .unset, .unset] [(.ref r0)])) rfl rfl (hb hby d6_1) tg k) ?_
  show own_Fin _ _ _ _ _ _ _ (s₁.setTop (mkF m 2 #[.val (.ref r0), .val (.int p1), .unset, .unset, .unset, .unset, .unset, .unset] [(.int (3 : Int32))]))
  refine own_go (fun _ k => XS.ifYes X0.here hx rfl (pc0 := 2) (pc' := 9) rfl (hb hby d6_2) rfl ((if0 _ _).trans (feq (by decide)).2) (by decide) (by decide) k) ?_
  show own_Fin _ _ _ _ _ _ _ (s₁.setTop (mkF m 9 #[.val (.ref r0), .val (.int p1), .unset, .unset, .unset, .unset, .unset, .unset] []))
  refine own_go (fun _ k => XS.aloadN X0.here hx rfl (hb hby d6_9) rfl rfl k) ?_
  refine own_go (fun _ k => XS.aloadN X0.here hx rfl (hb hby d6_10) rfl rfl k) ?_
  refine own_go (fun tg k => own_alen X0 hx hZ e0 A_r0_0 (g := (mkF m 11 #[.val (.ref r0), .val (.int p1), .unset, .unset, .unset, .unset, .unset, .unset] [(.ref r0), (.ref r0)])) rfl rfl (hb hby d6_11) tg k) ?_
  show own_Fin _ _ _ _ _ _ _ (s₁.setTop (mkF m 12 #[.val (.ref r0), .val (.int p1), .unset, .unset, .unset, .unset, .unset, .unset] [(.int (3 : Int32)), (.ref r0)]))
  refine own_go (fun _ k => XS.iconst X0.here hx rfl (hb hby d6_12) k) ?_
  refine own_go (fun _ k => XS.isub X0.here hx rfl (hb hby d6_13) rfl k) ?_
  show own_Fin _ _ _ _ _ _ _ (s₁.setTop (mkF m 14 #[.val (.ref r0), .val (.int p1), .unset, .unset, .unset, .unset, .unset, .unset] [(.int (2 : Int32)), (.ref r0)]))
  refine own_go (fun tg k => own_iaload X0 hx hZ e0 A_r0_0 (j := (2 : Int32)) ⟨by decide, by decide⟩ (x := (xg 2)) rfl (g := (mkF m 14 #[.val (.ref r0), .val (.int p1), .unset, .unset, .unset, .unset, .unset, .unset] [(.int (2 : Int32)), (.ref r0)])) rfl rfl (hb hby d6_14) tg k) ?_
  show own_Fin _ _ _ _ _ _ _ (s₁.setTop (mkF m 15 #[.val (.ref r0), .val (.int p1), .unset, .unset, .unset, .unset, .unset, .unset] [(.int (xg 2))]))
  refine own_go (fun _ k => XS.istoreN X0.here hx rfl (hb hby d6_15) rfl (l' := #[.val (.ref r0), .val (.int p1), .val (.int (xg 2)), .unset, .unset, .unset, .unset, .unset]) rfl k) ?_
  show own_Fin _ _ _ _ _ _ _ (s₁.setTop (mkF m 16 #[.val (.ref r0), .val (.int p1), .val (.int (xg 2)), .unset, .unset, .unset, .unset, .unset] []))
  refine own_go (fun _ k => XS.iloadN X0.here hx rfl (hb hby d6_16) rfl k) ?_
  refine own_go (fun _ k => XS.iloadN X0.here hx rfl (hb hby d6_17) rfl k) ?_
  refine own_go (fun _ k => XS.iushr X0.here hx rfl (hb hby d6_18) rfl k) ?_
  show own_Fin _ _ _ _ _ _ _ (s₁.setTop (mkF m 19 #[.val (.ref r0), .val (.int p1), .val (.int (xg 2)), .unset, .unset, .unset, .unset, .unset] [(.int (own_iushr (xg 2) p1))]))
  refine own_go (fun _ k => XS.iconst X0.here hx rfl (hb hby d6_19) k) ?_
  refine own_go (fun _ k => XS.iadd X0.here hx rfl (hb hby d6_20) rfl k) ?_
  show own_Fin _ _ _ _ _ _ _ (s₁.setTop (mkF m 21 #[.val (.ref r0), .val (.int p1), .val (.int (xg 2)), .unset, .unset, .unset, .unset, .unset] [(.int ((own_iushr (xg 2) p1) + (2 : Int32)))]))
  obtain ⟨T1, h1, k1, X1, e1, E1, A1, st1⟩ := newP X0 hx hZ (hw _ (List.mem_of_getElem? (i := 7) rfl)) e0 (g := (mkF m 21 #[.val (.ref r0), .val (.int p1), .val (.int (xg 2)), .unset, .unset, .unset, .unset, .unset] [(.int ((own_iushr (xg 2) p1) + (2 : Int32)))])) rfl (hb hby d6_21) rfl (own_bneg hp) (cap := 4) (own_bcap hp) (by decide) (by decide) (by decide)
  obtain ⟨b1, g1⟩ : ∃ z, z = h0.size := ⟨_, rfl⟩
  rw [← g1] at A1 st1
  have ne_r0_b1 : r0 ≠ b1 := Nat.ne_of_lt (Nat.lt_of_lt_of_le A_r0_0.lt (Nat.le_of_eq g1.symm))
  have ge_b1 : n0 ≤ b1 := Nat.le_trans Z0 (Nat.le_of_eq g1.symm)
  have sz_b1 : h0.size ≤ b1 := Nat.le_trans K0.1 (Nat.le_of_eq g1.symm)
  have A_r0_1 := A_r0_0.ext E1
  have K1 := K0.ext E1
  have Z1 : n0 ≤ h1.size := Nat.le_trans Z0 E1.1
  have A_b1_1 : own_Arf Z h1 b1 .int ((own_iushr (xg 2) p1) + (2 : Int32)) (fun i => .int ((fun _ => (0 : Int32)) i)) := own_Arf.new A1 (own_bneg hp)
  refine own_go (fun tg k => st1 tg k) ?_
  show own_Fin _ _ _ _ _ _ _ (T1.setTop (mkF m 23 #[.val (.ref r0), .val (.int p1), .val (.int (xg 2)), .unset, .unset, .unset, .unset, .unset] [(.ref b1)]))
  refine own_go (fun _ k => XS.astoreN X1.here hx rfl (hb hby d6_23) rfl rfl (l' := #[.val (.ref r0), .val (.int p1), .val (.int (xg 2)), .val (.ref b1), .unset, .unset, .unset, .unset]) rfl k) ?_
  show own_Fin _ _ _ _ _ _ _ (T1.setTop (mkF m 24 #[.val (.ref r0), .val (.int p1), .val (.int (xg 2)), .val (.ref b1), .unset, .unset, .unset, .unset] []))
  refine own_go (fun _ k => XS.aloadN X1.here hx rfl (hb hby d6_24) rfl rfl k) ?_
  refine own_go (fun _ k => XS.astore X1.here hx rfl (hb hby d6_25) rfl rfl (l' := #[.val (.ref r0), .val (.int p1), .val (.int (xg 2)), .val (.ref b1), .val (.ref r0), .unset, .unset, .unset]) rfl k) ?_
  show own_Fin _ _ _ _ _ _ _ (T1.setTop (mkF m 27 #[.val (.ref r0), .val (.int p1), .val (.int (xg 2)), .val (.ref b1), .val (.ref r0), .unset, .unset, .unset] []))
  refine own_go (fun _ k => XS.aload X1.here hx rfl (hb hby d6_27) rfl rfl k) ?_
  refine own_go (fun tg k => own_alen X1 hx hZ e1 A_r0_1 (g := (mkF m 29 #[.val (.ref r0), .val (.int p1), .val (.int (xg 2)), .val (.ref b1), .val (.ref r0), .unset, .unset, .unset] [(.ref r0)])) rfl rfl (hb hby d6_29) tg k) ?_
  show own_Fin _ _ _ _ _ _ _ (T1.setTop (mkF m 30 #[.val (.ref r0), .val (.int p1), .val (.int (xg 2)), .val (.ref b1), .val (.ref r0), .unset, .unset, .unset] [(.int (3 : Int32))]))
  refine own_go (fun _ k => XS.istore X1.here hx rfl (hb hby d6_30) rfl (l' := #[.val (.ref r0), .val (.int p1), .val (.int (xg 2)), .val (.ref b1), .val (.ref r0), .val (.int (3 : Int32)), .unset, .unset]) rfl k) ?_
  show own_Fin _ _ _ _ _ _ _ (T1.setTop (mkF m 32 #[.val (.ref r0), .val (.int p1), .val (.int (xg 2)), .val (.ref b1), .val (.ref r0), .val (.int (3 : Int32)), .unset, .unset] []))
  refine own_go (fun _ k => XS.iconst X1.here hx rfl (hb hby d6_32) k) ?_
  refine own_go (fun _ k => XS.istore X1.here hx rfl (hb hby d6_33) rfl (l' := #[.val (.ref r0), .val (.int p1), .val (.int (xg 2)), .val (.ref b1), .val (.ref r0), .val (.int (3 : Int32)), .val (.int (0 : Int32)), .unset]) rfl k) ?_
  show own_Fin _ _ _ _ _ _ _ (T1.setTop (mkF m 35 #[.val (.ref r0), .val (.int p1), .val (.int (xg 2)), .val (.ref b1), .val (.ref r0), .val (.int (3 : Int32)), .val (.int (0 : Int32)), .unset] []))
  refine own_go (fun _ k => XS.iload X1.here hx rfl (hb hby d6_35) rfl k) ?_
  refine own_go (fun _ k => XS.iload X1.here hx rfl (hb hby d6_37) rfl k) ?_
  show own_Fin _ _ _ _ _ _ _ (T1.setTop (mkF m 39 #[.val (.ref r0), .val (.int p1), .val (.int (xg 2)), .val (.ref b1), .val (.ref r0), .val (.int (3 : Int32)), .val (.int (0 : Int32)), .unset] [(.int (3 : Int32)), (.int (0 : Int32))]))
  refine own_go (fun _ k => XS.icmpNo X1.here hx rfl (hb hby d6_39) rfl (tlt (by decide)).2.1 k) ?_
  show own_Fin _ _ _ _ _ _ _ (T1.setTop (mkF m 42 #[.val (.ref r0), .val (.int p1), .val (.int (xg 2)), .val (.ref b1), .val (.ref r0), .val (.int (3 : Int32)), .val (.int (0 : Int32)), .unset] []))
  refine own_go (fun _ k => XS.aload X1.here hx rfl (hb hby d6_42) rfl rfl k) ?_
  refine own_go (fun _ k => XS.iload X1.here hx rfl (hb hby d6_44) rfl k) ?_
  refine own_go (fun tg k => own_iaload X1 hx hZ e1 A_r0_1 (j := (0 : Int32)) ⟨by decide, by decide⟩ (x := (xg 0)) rfl (g := (mkF m 46 #[.val (.ref r0), .val (.int p1), .val (.int (xg 2)), .val (.ref b1), .val (.ref r0), .val (.int (3 : Int32)), .val (.int (0 : Int32)), .unset] [(.int (0 : Int32)), (.ref r0)])) rfl rfl (hb hby d6_46) tg k) ?_
  show own_Fin _ _ _ _ _ _ _ (T1.setTop (mkF m 47 #[.val (.ref r0), .val (.int p1), .val (.int (xg 2)), .val (.ref b1), .val (.ref r0), .val (.int (3 : Int32)), .val (.int (0 : Int32)), .unset] [(.int (xg 0))]))
  refine own_go (fun _ k => XS.istore X1.here hx rfl (hb hby d6_47) rfl (l' := #[.val (.ref r0), .val (.int p1), .val (.int (xg 2)), .val (.ref b1), .val (.ref r0), .val (.int (3 : Int32)), .val (.int (0 : Int32)), .val (.int (xg 0))]) rfl k) ?_
  show own_Fin _ _ _ _ _ _ _ (T1.setTop (mkF m 49 #[.val (.ref r0), .val (.int p1), .val (.int (xg 2)), .val (.ref b1), .val (.ref r0), .val (.int (3 : Int32)), .val (.int (0 : Int32)), .val (.int (xg 0))] []))
  refine own_go (fun _ k => XS.aloadN X1.here hx rfl (hb hby d6_49) rfl rfl k) ?_
  refine own_go (fun _ k => XS.iload X1.here hx rfl (hb hby d6_50) rfl k) ?_
  refine own_go (fun _ k => XS.iloadN X1.here hx rfl (hb hby d6_52) rfl k) ?_
  refine own_go (fun _ k => XS.iushr X1.here hx rfl (hb hby d6_53) rfl k) ?_
  show own_Fin _ _ _ _ _ _ _ (T1.setTop (mkF m 54 #[.val (.ref r0), .val (.int p1), .val (.int (xg 2)), .val (.ref b1), .val (.ref r0), .val (.int (3 : Int32)), .val (.int (0 : Int32)), .val (.int (xg 0))] [(.int (own_iushr (xg 0) p1)), (.ref b1)]))
  refine own_go (fun _ k => XS.iconst X1.here hx rfl (hb hby d6_54) k) ?_
  refine own_go (fun _ k => XS.iadd X1.here hx rfl (hb hby d6_55) rfl k) ?_
  show own_Fin _ _ _ _ _ _ _ (T1.setTop (mkF m 56 #[.val (.ref r0), .val (.int p1), .val (.int (xg 2)), .val (.ref b1), .val (.ref r0), .val (.int (3 : Int32)), .val (.int (0 : Int32)), .val (.int (xg 0))] [(.int ((own_iushr (xg 0) p1) + (1 : Int32))), (.ref b1)]))
  refine own_go (fun _ k => Jvm.Free.XT.dup2 X1.here hx rfl (hb hby d6_56) rfl rfl rfl k) ?_
  show own_Fin _ _ _ _ _ _ _ (T1.setTop (mkF m 57 #[.val (.ref r0), .val (.int p1), .val (.int (xg 2)), .val (.ref b1), .val (.ref r0), .val (.int (3 : Int32)), .val (.int (0 : Int32)), .val (.int (xg 0))] [(.int ((own_iushr (xg 0) p1) + (1 : Int32))), (.ref b1), (.int ((own_iushr (xg 0) p1) + (1 : Int32))), (.ref b1)]))
  refine own_go (fun tg k => own_iaload X1 hx hZ e1 A_b1_1 (j := ((own_iushr (xg 0) p1) + (1 : Int32))) (own_bix0 hp) (x := ((fun _ => (0 : Int32)) ((own_iushr (xg 0) p1) + (1 : Int32)).toNatClampNeg)) rfl (g := (mkF m 57 #[.val (.ref r0), .val (.int p1), .val (.int (xg 2)), .val (.ref b1), .val (.ref r0), .val (.int (3 : Int32)), .val (.int (0 : Int32)), .val (.int (xg 0))] [(.int ((own_iushr (xg 0) p1) + (1 : Int32))), (.ref b1), (.int ((own_iushr (xg 0) p1) + (1 : Int32))), (.ref b1)])) rfl rfl (hb hby d6_57) tg k) ?_
  show own_Fin _ _ _ _ _ _ _ (T1.setTop (mkF m 58 #[.val (.ref r0), .val (.int p1), .val (.int (xg 2)), .val (.ref b1), .val (.ref r0), .val (.int (3 : Int32)), .val (.int (0 : Int32)), .val (.int (xg 0))] [(.int ((fun _ => (0 : Int32)) ((own_iushr (xg 0) p1) + (1 : Int32)).toNatClampNeg)), (.int ((own_iushr (xg 0) p1) + (1 : Int32))), (.ref b1)]))
  refine own_go (fun _ k => XS.iconst X1.here hx rfl (hb hby d6_58) k) ?_
  refine own_go (fun _ k => XS.iadd X1.here hx rfl (hb hby d6_59) rfl k) ?_
  show own_Fin _ _ _ _ _ _ _ (T1.setTop (mkF m 60 #[.val (.ref r0), .val (.int p1), .val (.int (xg 2)), .val (.ref b1), .val (.ref r0), .val (.int (3 : Int32)), .val (.int (0 : Int32)), .val (.int (xg 0))] [(.int (((fun _ => (0 : Int32)) ((own_iushr (xg 0) p1) + (1 : Int32)).toNatClampNeg) + (1 : Int32))), (.int ((own_iushr (xg 0) p1) + (1 : Int32))), (.ref b1)]))
  obtain ⟨T2, h2, X2, e2, W2, A_b1_2, st2⟩ := own_stI X1 hx hZ e1 A_b1_1 (j := ((own_iushr (xg 0) p1) + (1 : Int32))) (own_bix0 hp) (g := (mkF m 60 #[.val (.ref r0), .val (.int p1), .val (.int (xg 2)), .val (.ref b1), .val (.ref r0), .val (.int (3 : Int32)), .val (.int (0 : Int32)), .val (.int (xg 0))] [(.int (((fun _ => (0 : Int32)) ((own_iushr (xg 0) p1) + (1 : Int32)).toNatClampNeg) + (1 : Int32))), (.int ((own_iushr (xg 0) p1) + (1 : Int32))), (.ref b1)])) rfl rfl (hb hby d6_60)
  have A_r0_2 := A_r0_1.other W2 ne_r0_b1
  have K2 := K1.wr W2 (Or.inr sz_b1)
  have N2 := Fr.snoc X2 N0 ge_b1
  have Z2 : n0 ≤ h2.size := Nat.le_trans Z1 (Keep.of_wr W2).1
  obtain ⟨f2, hf2⟩ : ∃ z, z = (own_set (fun _ => (0 : Int32)) ((own_iushr (xg 0) p1) + (1 : Int32)) (((fun _ => (0 : Int32)) ((own_iushr (xg 0) p1) + (1 : Int32)).toNatClampNeg) + (1 : Int32))) := ⟨_, rfl⟩
  rw [← hf2] at A_b1_2
  refine own_go (fun tg k => st2 tg k) ?_
  show own_Fin _ _ _ _ _ _ _ (T2.setTop (mkF m 61 #[.val (.ref r0), .val (.int p1), .val (.int (xg 2)), .val (.ref b1), .val (.ref r0), .val (.int (3 : Int32)), .val (.int (0 : Int32)), .val (.int (xg 0))] []))
  refine own_go (fun _ k => XS.iinc X2.here hx rfl (hb hby d6_61) rfl (l' := #[.val (.ref r0), .val (.int p1), .val (.int (xg 2)), .val (.ref b1), .val (.ref r0), .val (.int (3 : Int32)), .val (.int (1 : Int32)), .val (.int (xg 0))]) rfl k) ?_
  show own_Fin _ _ _ _ _ _ _ (T2.setTop (mkF m 64 #[.val (.ref r0), .val (.int p1), .val (.int (xg 2)), .val (.ref b1), .val (.ref r0), .val (.int (3 : Int32)), .val (.int (1 : Int32)), .val (.int (xg 0))] []))
  refine own_go (fun _ k => XS.goto X2.here hx rfl (pc0 := 64) (pc' := 35) rfl (hb hby d6_64) (by decide) (by decide) k) ?_
  show own_Fin _ _ _ _ _ _ _ (T2.setTop (mkF m 35 #[.val (.ref r0), .val (.int p1), .val (.int (xg 2)), .val (.ref b1), .val (.ref r0), .val (.int (3 : Int32)), .val (.int (1 : Int32)), .val (.int (xg 0))] []))
  refine own_go (fun _ k => XS.iload X2.here hx rfl (hb hby d6_35) rfl k) ?_
  refine own_go (fun _ k => XS.iload X2.here hx rfl (hb hby d6_37) rfl k) ?_
  show own_Fin _ _ _ _ _ _ _ (T2.setTop (mkF m 39 #[.val (.ref r0), .val (.int p1), .val (.int (xg 2)), .val (.ref b1), .val (.ref r0), .val (.int (3 : Int32)), .val (.int (1 : Int32)), .val (.int (xg 0))] [(.int (3 : Int32)), (.int (1 : Int32))]))
  refine own_go (fun _ k => XS.icmpNo X2.here hx rfl (hb hby d6_39) rfl (tlt (by decide)).2.1 k) ?_
  show own_Fin _ _ _ _ _ _ _ (T2.setTop (mkF m 42 #[.val (.ref r0), .val (.int p1), .val (.int (xg 2)), .val (.ref b1), .val (.ref r0), .val (.int (3 : Int32)), .val (.int (1 : Int32)), .val (.int (xg 0))] []))
  refine own_go (fun _ k => XS.aload X2.here hx rfl (hb hby d6_42) rfl rfl k) ?_
  refine own_go (fun _ k => XS.iload X2.here hx rfl (hb hby d6_44) rfl k) ?_
  refine own_go (fun tg k => own_iaload X2 hx hZ e2 A_r0_2 (j := (1 : Int32)) ⟨by decide, by decide⟩ (x := (xg 1)) rfl (g := (mkF m 46 #[.val (.ref r0), .val (.int p1), .val (.int (xg 2)), .val (.ref b1), .val (.ref r0), .val (.int (3 : Int32)), .val (.int (1 : Int32)), .val (.int (xg 0))] [(.int (1 : Int32)), (.ref r0)])) rfl rfl (hb hby d6_46) tg k) ?_
  show own_Fin _ _ _ _ _ _ _ (T2.setTop (mkF m 47 #[.val (.ref r0), .val (.int p1), .val (.int (xg 2)), .val (.ref b1), .val (.ref r0), .val (.int (3 : Int32)), .val (.int (1 : Int32)), .val (.int (xg 0))] [(.int (xg 1))]))
  refine own_go (fun _ k => XS.istore X2.here hx rfl (hb hby d6_47) rfl (l' := #[.val (.ref r0), .val (.int p1), .val (.int (xg 2)), .val (.ref b1), .val (.ref r0), .val (.int (3 : Int32)), .val (.int (1 : Int32)), .val (.int (xg 1))]) rfl k) ?_
  show own_Fin _ _ _ _ _ _ _ (T2.setTop (mkF m 49 #[.val (.ref r0), .val (.int p1), .val (.int (xg 2)), .val (.ref b1), .val (.ref r0), .val (.int (3 : Int32)), .val (.int (1 : Int32)), .val (.int (xg 1))] []))
  refine own_go (fun _ k => XS.aloadN X2.here hx rfl (hb hby d6_49) rfl rfl k) ?_
  refine own_go (fun _ k => XS.iload X2.here hx rfl (hb hby d6_50) rfl k) ?_
  refine own_go (fun _ k => XS.iloadN X2.here hx rfl (hb hby d6_52) rfl k) ?_
  refine own_go (fun _ k => XS.iushr X2.here hx rfl (hb hby d6_53) rfl k) ?_
  show own_Fin _ _ _ _ _ _ _ (T2.setTop (mkF m 54 #[.val (.ref r0), .val (.int p1), .val (.int (xg 2)), .val (.ref b1), .val (.ref r0), .val (.int (3 : Int32)), .val (.int (1 : Int32)), .val (.int (xg 1))] [(.int (own_iushr (xg 1) p1)), (.ref b1)]))
  refine own_go (fun _ k => XS.iconst X2.here hx rfl (hb hby d6_54) k) ?_
  refine own_go (fun _ k => XS.iadd X2.here hx rfl (hb hby d6_55) rfl k) ?_
  show own_Fin _ _ _ _ _ _ _ (T2.setTop (mkF m 56 #[.val (.ref r0), .val (.int p1), .val (.int (xg 2)), .val (.ref b1), .val (.ref r0), .val (.int (3 : Int32)), .val (.int (1 : Int32)), .val (.int (xg 1))] [(.int ((own_iushr (xg 1) p1) + (1 : Int32))), (.ref b1)]))
  refine own_go (fun _ k => Jvm.Free.XT.dup2 X2.here hx rfl (hb hby d6_56) rfl rfl rfl k) ?_
  show own_Fin _ _ _ _ _ _ _ (T2.setTop (mkF m 57 #[.val (.ref r0), .val (.int p1), .val (.int (xg 2)), .val (.ref b1), .val (.ref r0), .val (.int (3 : Int32)), .val (.int (1 : Int32)), .val (.int (xg 1))] [(.int ((own_iushr (xg 1) p1) + (1 : Int32))), (.ref b1), (.int ((own_iushr (xg 1) p1) + (1 : Int32))), (.ref b1)]))
  refine own_go (fun tg k => own_iaload X2 hx hZ e2 A_b1_2 (j := ((own_iushr (xg 1) p1) + (1 : Int32))) (own_bix1 hp) (x := (f2 ((own_iushr (xg 1) p1) + (1 : Int32)).toNatClampNeg)) rfl (g := (mkF m 57 #[.val (.ref r0), .val (.int p1), .val (.int (xg 2)), .val (.ref b1), .val (.ref r0), .val (.int (3 : Int32)), .val (.int (1 : Int32)), .val (.int (xg 1))] [(.int ((own_iushr (xg 1) p1) + (1 : Int32))), (.ref b1), (.int ((own_iushr (xg 1) p1) + (1 : Int32))), (.ref b1)])) rfl rfl (hb hby d6_57) tg k) ?_
  show own_Fin _ _ _ _ _ _ _ (T2.setTop (mkF m 58 #[.val (.ref r0), .val (.int p1), .val (.int (xg 2)), .val (.ref b1), .val (.ref r0), .val (.int (3 : Int32)), .val (.int (1 : Int32)), .val (.int (xg 1))] [(.int (f2 ((own_iushr (xg 1) p1) + (1 : Int32)).toNatClampNeg)), (.int ((own_iushr (xg 1) p1) + (1 : Int32))), (.ref b1)]))
  refine own_go (fun _ k => XS.iconst X2.here hx rfl (hb hby d6_58) k) ?_
  refine own_go (fun _ k => XS.iadd X2.here hx rfl (hb hby d6_59) rfl k) ?_
  show own_Fin _ _ _ _ _ _ _ (T2.setTop (mkF m 60 #[.val (.ref r0), .val (.int p1), .val (.int (xg 2)), .val (.ref b1), .val (.ref r0), .val (.int (3 : Int32)), .val (.int (1 : Int32)), .val (.int (xg 1))] [(.int ((f2 ((own_iushr (xg 1) p1) + (1 : Int32)).toNatClampNeg) + (1 : Int32))), (.int ((own_iushr (xg 1) p1) + (1 : Int32))), (.ref b1)]))
  obtain ⟨T3, h3, X3, e3, W3, A_b1_3, st3⟩ := own_stI X2 hx hZ e2 A_b1_2 (j := ((own_iushr (xg 1) p1) + (1 : Int32))) (own_bix1 hp) (g := (mkF m 60 #[.val (.ref r0), .val (.int p1), .val (.int (xg 2)), .val (.ref b1), .val (.ref r0), .val (.int (3 : Int32)), .val (.int (1 : Int32)), .val (.int (xg 1))] [(.int ((f2 ((own_iushr (xg 1) p1) + (1 : Int32)).toNatClampNeg) + (1 : Int32))), (.int ((own_iushr (xg 1) p1) + (1 : Int32))), (.ref b1)])) rfl rfl (hb hby d6_60)
  have A_r0_3 := A_r0_2.other W3 ne_r0_b1
  have K3 := K2.wr W3 (Or.inr sz_b1)
  have N3 := Fr.snoc X3 N2 ge_b1
  have Z3 : n0 ≤ h3.size := Nat.le_trans Z2 (Keep.of_wr W3).1
  obtain ⟨f3, hf3⟩ : ∃ z, z = (own_set f2 ((own_iushr (xg 1) p1) + (1 : Int32)) ((f2 ((own_iushr (xg 1) p1) + (1 : Int32)).toNatClampNeg) + (1 : Int32))) := ⟨_, rfl⟩
  rw [← hf3] at A_b1_3
  refine own_go (fun tg k => st3 tg k) ?_
  show own_Fin _ _ _ _ _ _ _ (T3.setTop (mkF m 61 #[.val (.ref r0), .val (.int p1), .val (.int (xg 2)), .val (.ref b1), .val (.ref r0), .val (.int (3 : Int32)), .val (.int (1 : Int32)), .val (.int (xg 1))] []))
  refine own_go (fun _ k => XS.iinc X3.here hx rfl (hb hby d6_61) rfl (l' := #[.val (.ref r0), .val (.int p1), .val (.int (xg 2)), .val (.ref b1), .val (.ref r0), .val (.int (3 : Int32)), .val (.int (2 : Int32)), .val (.int (xg 1))]) rfl k) ?_
  show own_Fin _ _ _ _ _ _ _ (T3.setTop (mkF m 64 #[.val (.ref r0), .val (.int p1), .val (.int (xg 2)), .val (.ref b1), .val (.ref r0), .val (.int (3 : Int32)), .val (.int (2 : Int32)), .val (.int (xg 1))] []))
  refine own_go (fun _ k => XS.goto X3.here hx rfl (pc0 := 64) (pc' := 35) rfl (hb hby d6_64) (by decide) (by decide) k) ?_
  show own_Fin _ _ _ _ _ _ _ (T3.setTop (mkF m 35 #[.val (.ref r0), .val (.int p1), .val (.int (xg 2)), .val (.ref b1), .val (.ref r0), .val (.int (3 : Int32)), .val (.int (2 : Int32)), .val (.int (xg 1))] []))
  refine own_go (fun _ k => XS.iload X3.here hx rfl (hb hby d6_35) rfl k) ?_
  refine own_go (fun _ k => XS.iload X3.here hx rfl (hb hby d6_37) rfl k) ?_
  show own_Fin _ _ _ _ _ _ _ (T3.setTop (mkF m 39 #[.val (.ref r0), .val (.int p1), .val (.int (xg 2)), .val (.ref b1), .val (.ref r0), .val (.int (3 : Int32)), .val (.int (2 : Int32)), .val (.int (xg 1))] [(.int (3 : Int32)), (.int (2 : Int32))]))
  refine own_go (fun _ k => XS.icmpNo X3.here hx rfl (hb hby d6_39) rfl (tlt (by decide)).2.1 k) ?_
  show own_Fin _ _ _ _ _ _ _ (T3.setTop (mkF m 42 #[.val (.ref r0), .val (.int p1), .val (.int (xg 2)), .val (.ref b1), .val (.ref r0), .val (.int (3 : Int32)), .val (.int (2 : Int32)), .val (.int (xg 1))] []))
  refine own_go (fun _ k => XS.aload X3.here hx rfl (hb hby d6_42) rfl rfl k) ?_
  refine own_go (fun _ k => XS.iload X3.here hx rfl (hb hby d6_44) rfl k) ?_
  refine own_go (fun tg k => own_iaload X3 hx hZ e3 A_r0_3 (j := (2 : Int32)) ⟨by decide, by decide⟩ (x := (xg 2)) rfl (g := (mkF m 46 #[.val (.ref r0), .val (.int p1), .val (.int (xg 2)), .val (.ref b1), .val (.ref r0), .val (.int (3 : Int32)), .val (.int (2 : Int32)), .val (.int (xg 1))] [(.int (2 : Int32)), (.ref r0)])) rfl rfl (hb hby d6_46) tg k) ?_
  show own_Fin _ _ _ _ _ _ _ (T3.setTop (mkF m 47 #[.val (.ref r0), .val (.int p1), .val (.int (xg 2)), .val (.ref b1), .val (.ref r0), .val (.int (3 : Int32)), .val (.int (2 : Int32)), .val (.int (xg 1))] [(.int (xg 2))]))
  refine own_go (fun _ k => XS.istore X3.here hx rfl (hb hby d6_47) rfl (l' := #[.val (.ref r0), .val (.int p1), .val (.int (xg 2)), .val (.ref b1), .val (.ref r0), .val (.int (3 : Int32)), .val (.int (2 : Int32)), .val (.int (xg 2))]) rfl k) ?_
  show own_Fin _ _ _ _ _ _ _ (T3.setTop (mkF m 49 #[.val (.ref r0), .val (.int p1), .val (.int (xg 2)), .val (.ref b1), .val (.ref r0), .val (.int (3 : Int32)), .val (.int (2 : Int32)), .val (.int (xg 2))] []))
  refine own_go (fun _ k => XS.aloadN X3.here hx rfl (hb hby d6_49) rfl rfl k) ?_
  refine own_go (fun _ k => XS.iload X3.here hx rfl (hb hby d6_50) rfl k) ?_
  refine own_go (fun _ k => XS.iloadN X3.here hx rfl (hb hby d6_52) rfl k) ?_
  refine own_go (fun _ k => XS.iushr X3.here hx rfl (hb hby d6_53) rfl k) ?_
  show own_Fin _ _ _ _ _ _ _ (T3.setTop (mkF m 54 #[.val (.ref r0), .val (.int p1), .val (.int (xg 2)), .val (.ref b1), .val (.ref r0), .val (.int (3 : Int32)), .val (.int (2 : Int32)), .val (.int (xg 2))] [(.int (own_iushr (xg 2) p1)), (.ref b1)]))
  refine own_go (fun _ k => XS.iconst X3.here hx rfl (hb hby d6_54) k) ?_
  refine own_go (fun _ k => XS.iadd X3.here hx rfl (hb hby d6_55) rfl k) ?_
  show own_Fin _ _ _ _ _ _ _ (T3.setTop (mkF m 56 #[.val (.ref r0), .val (.int p1), .val (.int (xg 2)), .val (.ref b1), .val (.ref r0), .val (.int (3 : Int32)), .val (.int (2 : Int32)), .val (.int (xg 2))] [(.int ((own_iushr (xg 2) p1) + (1 : Int32))), (.ref b1)]))
  refine own_go (fun _ k => Jvm.Free.XT.dup2 X3.here hx rfl (hb hby d6_56) rfl rfl rfl k) ?_
  show own_Fin _ _ _ _ _ _ _ (T3.setTop (mkF m 57 #[.val (.ref r0), .val (.int p1), .val (.int (xg 2)), .val (.ref b1), .val (.ref r0), .val (.int (3 : Int32)), .val (.int (2 : Int32)), .val (.int (xg 2))] [(.int ((own_iushr (xg 2) p1) + (1 : Int32))), (.ref b1), (.int ((own_iushr (xg 2) p1) + (1 : Int32))), (.ref b1)]))
  refine own_go (fun tg k => own_iaload X3 hx hZ e3 A_b1_3 (j := ((own_iushr (xg 2) p1) + (1 : Int32))) (own_bix2 hp) (x := (f3 ((own_iushr (xg 2) p1) + (1 : Int32)).toNatClampNeg)) rfl (g := (mkF m 57 #[.val (.ref r0), .val (.int p1), .val (.int (xg 2)), .val (.ref b1), .val (.ref r0), .val (.int (3 : Int32)), .val (.int (2 : Int32)), .val (.int (xg 2))] [(.int ((own_iushr (xg 2) p1) + (1 : Int32))), (.ref b1), (.int ((own_iushr (xg 2) p1) + (1 : Int32))), (.ref b1)])) rfl rfl (hb hby d6_57) tg k) ?_
  show own_Fin _ _ _ _ _ _ _ (T3.setTop (mkF m 58 #[.val (.ref r0), .val (.int p1), .val (.int (xg 2)), .val (.ref b1), .val (.ref r0), .val (.int (3 : Int32)), .val (.int (2 : Int32)), .val (.int (xg 2))] [(.int (f3 ((own_iushr (xg 2) p1) + (1 : Int32)).toNatClampNeg)), (.int ((own_iushr (xg 2) p1) + (1 : Int32))), (.ref b1)]))
  refine own_go (fun _ k => XS.iconst X3.here hx rfl (hb hby d6_58) k) ?_
  refine own_go (fun _ k => XS.iadd X3.here hx rfl (hb hby d6_59) rfl k) ?_
  show own_Fin _ _ _ _ _ _ _ (T3.setTop (mkF m 60 #[.val (.ref r0), .val (.int p1), .val (.int (xg 2)), .val (.ref b1), .val (.ref r0), .val (.int (3 : Int32)), .val (.int (2 : Int32)), .val (.int (xg 2))] [(.int ((f3 ((own_iushr (xg 2) p1) + (1 : Int32)).toNatClampNeg) + (1 : Int32))), (.int ((own_iushr (xg 2) p1) + (1 : Int32))), (.ref b1)]))
  obtain ⟨T4, h4, X4, e4, W4, A_b1_4, st4⟩ := own_stI X3 hx hZ e3 A_b1_3 (j := ((own_iushr (xg 2) p1) + (1 : Int32))) (own_bix2 hp) (g := (mkF m 60 #[.val (.ref r0), .val (.int p1), .val (.int (xg 2)), .val (.ref b1), .val (.ref r0), .val (.int (3 : Int32)), .val (.int (2 : Int32)), .val (.int (xg 2))] [(.int ((f3 ((own_iushr (xg 2) p1) + (1 : Int32)).toNatClampNeg) + (1 : Int32))), (.int ((own_iushr (xg 2) p1) + (1 : Int32))), (.ref b1)])) rfl rfl (hb hby d6_60)
  have A_r0_4 := A_r0_3.other W4 ne_r0_b1
  have K4 := K3.wr W4 (Or.inr sz_b1)
  have N4 := Fr.snoc X4 N3 ge_b1
  have Z4 : n0 ≤ h4.size := Nat.le_trans Z3 (Keep.of_wr W4).1
  obtain ⟨f4, hf4⟩ : ∃ z, z = (own_set f3 ((own_iushr (xg 2) p1) + (1 : Int32)) ((f3 ((own_iushr (xg 2) p1) + (1 : Int32)).toNatClampNeg) + (1 : Int32))) := ⟨_, rfl⟩
  rw [← hf4] at A_b1_4
  refine own_go (fun tg k => st4 tg k) ?_
  show own_Fin _ _ _ _ _ _ _ (T4.setTop (mkF m 61 #[.val (.ref r0), .val (.int p1), .val (.int (xg 2)), .val (.ref b1), .val (.ref r0), .val (.int (3 : Int32)), .val (.int (2 : Int32)), .val (.int (xg 2))] []))
  refine own_go (fun _ k => XS.iinc X4.here hx rfl (hb hby d6_61) rfl (l' := #[.val (.ref r0), .val (.int p1), .val (.int (xg 2)), .val (.ref b1), .val (.ref r0), .val (.int (3 : Int32)), .val (.int (3 : Int32)), .val (.int (xg 2))]) rfl k) ?_
  show own_Fin _ _ _ _ _ _ _ (T4.setTop (mkF m 64 #[.val (.ref r0), .val (.int p1), .val (.int (xg 2)), .val (.ref b1), .val (.ref r0), .val (.int (3 : Int32)), .val (.int (3 : Int32)), .val (.int (xg 2))] []))
  refine own_go (fun _ k => XS.goto X4.here hx rfl (pc0 := 64) (pc' := 35) rfl (hb hby d6_64) (by decide) (by decide) k) ?_
  show own_Fin _ _ _ _ _ _ _ (T4.setTop (mkF m 35 #[.val (.ref r0), .val (.int p1), .val (.int (xg 2)), .val (.ref b1), .val (.ref r0), .val (.int (3 : Int32)), .val (.int (3 : Int32)), .val (.int (xg 2))] []))
  refine own_go (fun _ k => XS.iload X4.here hx rfl (hb hby d6_35) rfl k) ?_
  refine own_go (fun _ k => XS.iload X4.here hx rfl (hb hby d6_37) rfl k) ?_
  show own_Fin _ _ _ _ _ _ _ (T4.setTop (mkF m 39 #[.val (.ref r0), .val (.int p1), .val (.int (xg 2)), .val (.ref b1), .val (.ref r0), .val (.int (3 : Int32)), .val (.int (3 : Int32)), .val (.int (xg 2))] [(.int (3 : Int32)), (.int (3 : Int32))]))
  refine own_go (fun _ k => XS.icmpYes X4.here hx rfl (pc0 := 39) (pc' := 67) rfl (hb hby d6_39) rfl (flt (by decide)).2.1 (by decide) (by decide) k) ?_
  show own_Fin _ _ _ _ _ _ _ (T4.setTop (mkF m 67 #[.val (.ref r0), .val (.int p1), .val (.int (xg 2)), .val (.ref b1), .val (.ref r0), .val (.int (3 : Int32)), .val (.int (3 : Int32)), .val (.int (xg 2))] []))
  by_cases hs5 : ((own_iushr (xg 2) p1) + (2 : Int32)) = (2 : Int32)
  · try rw [hs5]
    show own_Fin _ _ _ _ _ _ _ (T4.setTop (mkF m 67 #[.val (.ref r0), .val (.int p1), .val (.int (xg 2)), .val (.ref b1), .val (.ref r0), .val (.int (3 : Int32)), .val (.int (3 : Int32)), .val (.int (xg 2))] []))
    rw [hs5] at A_b1_4
    refine own_go (fun _ k => XS.iconst X4.here hx rfl (hb hby d6_67) k) ?_
    refine own_go (fun _ k => XS.istore X4.here hx rfl (hb hby d6_68) rfl (l' := #[.val (.ref r0), .val (.int p1), .val (.int (xg 2)), .val (.ref b1), .val (.int (1 : Int32)), .val (.int (3 : Int32)), .val (.int (3 : Int32)), .val (.int (xg 2))]) rfl k) ?_
    show own_Fin _ _ _ _ _ _ _ (T4.setTop (mkF m 70 #[.val (.ref r0), .val (.int p1), .val (.int (xg 2)), .val (.ref b1), .val (.int (1 : Int32)), .val (.int (3 : Int32)), .val (.int (3 : Int32)), .val (.int (xg 2))] []))
    refine own_go (fun _ k => XS.iload X4.here hx rfl (hb hby d6_70) rfl k) ?_
    refine own_go (fun _ k => XS.aloadN X4.here hx rfl (hb hby d6_72) rfl rfl k) ?_
    refine own_go (fun tg k => own_alen X4 hx hZ e4 A_b1_4 (g := (mkF m 73 #[.val (.ref r0), .val (.int p1), .val (.int (xg 2)), .val (.ref b1), .val (.int (1 : Int32)), .val (.int (3 : Int32)), .val (.int (3 : Int32)), .val (.int (xg 2))] [(.ref b1), (.int (1 : Int32))])) rfl rfl (hb hby d6_73) tg k) ?_
    show own_Fin _ _ _ _ _ _ _ (T4.setTop (mkF m 74 #[.val (.ref r0), .val (.int p1), .val (.int (xg 2)), .val (.ref b1), .val (.int (1 : Int32)), .val (.int (3 : Int32)), .val (.int (3 : Int32)), .val (.int (xg 2))] [(.int (2 : Int32)), (.int (1 : Int32))]))
    refine own_go (fun _ k => XS.icmpNo X4.here hx rfl (hb hby d6_74) rfl (tlt (by decide)).2.1 k) ?_
    show own_Fin _ _ _ _ _ _ _ (T4.setTop (mkF m 77 #[.val (.ref r0), .val (.int p1), .val (.int (xg 2)), .val (.ref b1), .val (.int (1 : Int32)), .val (.int (3 : Int32)), .val (.int (3 : Int32)), .val (.int (xg 2))] []))
    refine own_go (fun _ k => XS.aloadN X4.here hx rfl (hb hby d6_77) rfl rfl k) ?_
    refine own_go (fun _ k => XS.iload X4.here hx rfl (hb hby d6_78) rfl k) ?_
    show own_Fin _ _ _ _ _ _ _ (T4.setTop (mkF m 80 #[.val (.ref r0), .val (.int p1), .val (.int (xg 2)), .val (.ref b1), .val (.int (1 : Int32)), .val (.int (3 : Int32)), .val (.int (3 : Int32)), .val (.int (xg 2))] [(.int (1 : Int32)), (.ref b1)]))
    refine own_go (fun _ k => Jvm.Free.XT.dup2 X4.here hx rfl (hb hby d6_80) rfl rfl rfl k) ?_
    show own_Fin _ _ _ _ _ _ _ (T4.setTop (mkF m 81 #[.val (.ref r0), .val (.int p1), .val (.int (xg 2)), .val (.ref b1), .val (.int (1 : Int32)), .val (.int (3 : Int32)), .val (.int (3 : Int32)), .val (.int (xg 2))] [(.int (1 : Int32)), (.ref b1), (.int (1 : Int32)), (.ref b1)]))
    refine own_go (fun tg k => own_iaload X4 hx hZ e4 A_b1_4 (j := (1 : Int32)) ⟨by decide, by decide⟩ (x := (f4 1)) rfl (g := (mkF m 81 #[.val (.ref r0), .val (.int p1), .val (.int (xg 2)), .val (.ref b1), .val (.int (1 : Int32)), .val (.int (3 : Int32)), .val (.int (3 : Int32)), .val (.int (xg 2))] [(.int (1 : Int32)), (.ref b1), (.int (1 : Int32)), (.ref b1)])) rfl rfl (hb hby d6_81) tg k) ?_
    show own_Fin _ _ _ _ _ _ _ (T4.setTop (mkF m 82 #[.val (.ref r0), .val (.int p1), .val (.int (xg 2)), .val (.ref b1), .val (.int (1 : Int32)), .val (.int (3 : Int32)), .val (.int (3 : Int32)), .val (.int (xg 2))] [(.int (f4 1)), (.int (1 : Int32)), (.ref b1)]))
    refine own_go (fun _ k => XS.aloadN X4.here hx rfl (hb hby d6_82) rfl rfl k) ?_
    refine own_go (fun _ k => XS.iload X4.here hx rfl (hb hby d6_83) rfl k) ?_
    refine own_go (fun _ k => XS.iconst X4.here hx rfl (hb hby d6_85) k) ?_
    refine own_go (fun _ k => XS.isub X4.here hx rfl (hb hby d6_86) rfl k) ?_
    show own_Fin _ _ _ _ _ _ _ (T4.setTop (mkF m 87 #[.val (.ref r0), .val (.int p1), .val (.int (xg 2)), .val (.ref b1), .val (.int (1 : Int32)), .val (.int (3 : Int32)), .val (.int (3 : Int32)), .val (.int (xg 2))] [(.int (0 : Int32)), (.ref b1), (.int (f4 1)), (.int (1 : Int32)), (.ref b1)]))
    refine own_go (fun tg k => own_iaload X4 hx hZ e4 A_b1_4 (j := (0 : Int32)) ⟨by decide, by decide⟩ (x := (f4 0)) rfl (g := (mkF m 87 #[.val (.ref r0), .val (.int p1), .val (.int (xg 2)), .val (.ref b1), .val (.int (1 : Int32)), .val (.int (3 : Int32)), .val (.int (3 : Int32)), .val (.int (xg 2))] [(.int (0 : Int32)), (.ref b1), (.int (f4 1)), (.int (1 : Int32)), (.ref b1)])) rfl rfl (hb hby d6_87) tg k) ?_
    show own_Fin _ _ _ _ _ _ _ (T4.setTop (mkF m 88 #[.val (.ref r0), .val (.int p1), .val (.int (xg 2)), .val (.ref b1), .val (.int (1 : Int32)), .val (.int (3 : Int32)), .val (.int (3 : Int32)), .val (.int (xg 2))] [(.int (f4 0)), (.int (f4 1)), (.int (1 : Int32)), (.ref b1)]))
    refine own_go (fun _ k => XS.iadd X4.here hx rfl (hb hby d6_88) rfl k) ?_
    show own_Fin _ _ _ _ _ _ _ (T4.setTop (mkF m 89 #[.val (.ref r0), .val (.int p1), .val (.int (xg 2)), .val (.ref b1), .val (.int (1 : Int32)), .val (.int (3 : Int32)), .val (.int (3 : Int32)), .val (.int (xg 2))] [(.int ((f4 1) + (f4 0))), (.int (1 : Int32)), (.ref b1)]))
    obtain ⟨T6, h6, X6, e6, W6, A_b1_6, st6⟩ := own_stI X4 hx hZ e4 A_b1_4 (j := (1 : Int32)) ⟨by decide, by decide⟩ (g := (mkF m 89 #[.val (.ref r0), .val (.int p1), .val (.int (xg 2)), .val (.ref b1), .val (.int (1 : Int32)), .val (.int (3 : Int32)), .val (.int (3 : Int32)), .val (.int (xg 2))] [(.int ((f4 1) + (f4 0))), (.int (1 : Int32)), (.ref b1)])) rfl rfl (hb hby d6_89)
    have A_r0_6 := A_r0_4.other W6 ne_r0_b1
    have K6 := K4.wr W6 (Or.inr sz_b1)
    have N6 := Fr.snoc X6 N4 ge_b1
    have Z6 : n0 ≤ h6.size := Nat.le_trans Z4 (Keep.of_wr W6).1
    obtain ⟨f6, hf6⟩ : ∃ z, z = (own_set f4 (1 : Int32) ((f4 1) + (f4 0))) := ⟨_, rfl⟩
    rw [← hf6] at A_b1_6
    refine own_go (fun tg k => st6 tg k) ?_
    show own_Fin _ _ _ _ _ _ _ (T6.setTop (mkF m 90 #[.val (.ref r0), .val (.int p1), .val (.int (xg 2)), .val (.ref b1), .val (.int (1 : Int32)), .val (.int (3 : Int32)), .val (.int (3 : Int32)), .val (.int (xg 2))] []))
    refine own_go (fun _ k => XS.iinc X6.here hx rfl (hb hby d6_90) rfl (l' := #[.val (.ref r0), .val (.int p1), .val (.int (xg 2)), .val (.ref b1), .val (.int (2 : Int32)), .val (.int (3 : Int32)), .val (.int (3 : Int32)), .val (.int (xg 2))]) rfl k) ?_
    show own_Fin _ _ _ _ _ _ _ (T6.setTop (mkF m 93 #[.val (.ref r0), .val (.int p1), .val (.int (xg 2)), .val (.ref b1), .val (.int (2 : Int32)), .val (.int (3 : Int32)), .val (.int (3 : Int32)), .val (.int (xg 2))] []))
    refine own_go (fun _ k => XS.goto X6.here hx rfl (pc0 := 93) (pc' := 70) rfl (hb hby d6_93) (by decide) (by decide) k) ?_
    show own_Fin _ _ _ _ _ _ _ (T6.setTop (mkF m 70 #[.val (.ref r0), .val (.int p1), .val (.int (xg 2)), .val (.ref b1), .val (.int (2 : Int32)), .val (.int (3 : Int32)), .val (.int (3 : Int32)), .val (.int (xg 2))] []))
    refine own_go (fun _ k => XS.iload X6.here hx rfl (hb hby d6_70) rfl k) ?_
    refine own_go (fun _ k => XS.aloadN X6.here hx rfl (hb hby d6_72) rfl rfl k) ?_
    refine own_go (fun tg k => own_alen X6 hx hZ e6 A_b1_6 (g := (mkF m 73 #[.val (.ref r0), .val (.int p1), .val (.int (xg 2)), .val (.ref b1), .val (.int (2 : Int32)), .val (.int (3 : Int32)), .val (.int (3 : Int32)), .val (.int (xg 2))] [(.ref b1), (.int (2 : Int32))])) rfl rfl (hb hby d6_73) tg k) ?_
    show own_Fin _ _ _ _ _ _ _ (T6.setTop (mkF m 74 #[.val (.ref r0), .val (.int p1), .val (.int (xg 2)), .val (.ref b1), .val (.int (2 : Int32)), .val (.int (3 : Int32)), .val (.int (3 : Int32)), .val (.int (xg 2))] [(.int (2 : Int32)), (.int (2 : Int32))]))
    refine own_go (fun _ k => XS.icmpYes X6.here hx rfl (pc0 := 74) (pc' := 96) rfl (hb hby d6_74) rfl (flt (by decide)).2.1 (by decide) (by decide) k) ?_
    show own_Fin _ _ _ _ _ _ _ (T6.setTop (mkF m 96 #[.val (.ref r0), .val (.int p1), .val (.int (xg 2)), .val (.ref b1), .val (.int (2 : Int32)), .val (.int (3 : Int32)), .val (.int (3 : Int32)), .val (.int (xg 2))] []))
    refine own_go (fun _ k => XS.aloadN X6.here hx rfl (hb hby d6_96) rfl rfl k) ?_
    show own_Fin _ _ _ _ _ _ _ (T6.setTop (mkF m 97 #[.val (.ref r0), .val (.int p1), .val (.int (xg 2)), .val (.ref b1), .val (.int (2 : Int32)), .val (.int (3 : Int32)), .val (.int (3 : Int32)), .val (.int (xg 2))] [(.ref b1)]))
    refine own_ret X6 hx hlk Bd.returns rfl (Or.inr (Or.inr (Or.inr (Or.inr ⟨rfl, rfl, rfl⟩)))) (hb hby d6_97) (Nat.le_of_ble_eq_true rfl) (Nat.le_of_ble_eq_true rfl) ?_
    rw [e6]
    refine ⟨b1, f6, ?_, N6, K6, sz_b1, ?_, ?_⟩
    · first | (simp only [if_pos hs5]; done) | (simp only [if_pos hs5]; rfl) | rfl
    · (first | exact A_b1_6 | (rw [hs5]; exact A_b1_6))
    · first | (exact own_bspec2 hp hs5 hf2 hf3 hf4 hf6) | (simp only [if_pos hs5]; exact own_bspec2 hp hs5 hf2 hf3 hf4 hf6)
  · by_cases hs7 : ((own_iushr (xg 2) p1) + (2 : Int32)) = (3 : Int32)
    · try rw [hs7]
      show own_Fin _ _ _ _ _ _ _ (T4.setTop (mkF m 67 #[.val (.ref r0), .val (.int p1), .val (.int (xg 2)), .val (.ref b1), .val (.ref r0), .val (.int (3 : Int32)), .val (.int (3 : Int32)), .val (.int (xg 2))] []))
      rw [hs7] at A_b1_4
      refine own_go (fun _ k => XS.iconst X4.here hx rfl (hb hby d6_67) k) ?_
      refine own_go (fun _ k => XS.istore X4.here hx rfl (hb hby d6_68) rfl (l' := #[.val (.ref r0), .val (.int p1), .val (.int (xg 2)), .val (.ref b1), .val (.int (1 : Int32)), .val (.int (3 : Int32)), .val (.int (3 : Int32)), .val (.int (xg 2))]) rfl k) ?_
      show own_Fin _ _ _ _ _ _ _ (T4.setTop (mkF m 70 #[.val (.ref r0), .val (.int p1), .val (.int (xg 2)), .val (.ref b1), .val (.int (1 : Int32)), .val (.int (3 : Int32)), .val (.int (3 : Int32)), .val (.int (xg 2))] []))
      refine own_go (fun _ k => XS.iload X4.here hx rfl (hb hby d6_70) rfl k) ?_
      refine own_go (fun _ k => XS.aloadN X4.here hx rfl (hb hby d6_72) rfl rfl k) ?_
      refine own_go (fun tg k => own_alen X4 hx hZ e4 A_b1_4 (g := (mkF m 73 #[.val (.ref r0), .val (.int p1), .val (.int (xg 2)), .val (.ref b1), .val (.int (1 : Int32)), .val (.int (3 : Int32)), .val (.int (3 : Int32)), .val (.int (xg 2))] [(.ref b1), (.int (1 : Int32))])) rfl rfl (hb hby d6_73) tg k) ?_
      show own_Fin _ _ _ _ _ _ _ (T4.setTop (mkF m 74 #[.val (.ref r0), .val (.int p1), .val (.int (xg 2)), .val (.ref b1), .val (.int (1 : Int32)), .val (.int (3 : Int32)), .val (.int (3 : Int32)), .val (.int (xg 2))] [(.int (3 : Int32)), (.int (1 : Int32))]))
      refine own_go (fun _ k => XS.icmpNo X4.here hx rfl (hb hby d6_74) rfl (tlt (by decide)).2.1 k) ?_
      show own_Fin _ _ _ _ _ _ _ (T4.setTop (mkF m 77 #[.val (.ref r0), .val (.int p1), .val (.int (xg 2)), .val (.ref b1), .val (.int (1 : Int32)), .val (.int (3 : Int32)), .val (.int (3 : Int32)), .val (.int (xg 2))] []))
      refine own_go (fun _ k => XS.aloadN X4.here hx rfl (hb hby d6_77) rfl rfl k) ?_
      refine own_go (fun _ k => XS.iload X4.here hx rfl (hb hby d6_78) rfl k) ?_
      show own_Fin _ _ _ _ _ _ _ (T4.setTop (mkF m 80 #[.val (.ref r0), .val (.int p1), .val (.int (xg 2)), .val (.ref b1), .val (.int (1 : Int32)), .val (.int (3 : Int32)), .val (.int (3 : Int32)), .val (.int (xg 2))] [(.int (1 : Int32)), (.ref b1)]))
      refine own_go (fun _ k => Jvm.Free.XT.dup2 X4.here hx rfl (hb hby d6_80) rfl rfl rfl k) ?_
      show own_Fin _ _ _ _ _ _ _ (T4.setTop (mkF m 81 #[.val (.ref r0), .val (.int p1), .val (.int (xg 2)), .val (.ref b1), .val (.int (1 : Int32)), .val (.int (3 : Int32)), .val (.int (3 : Int32)), .val (.int (xg 2))] [(.int (1 : Int32)), (.ref b1), (.int (1 : Int32)), (.ref b1)]))
      refine own_go (fun tg k => own_iaload X4 hx hZ e4 A_b1_4 (j := (1 : Int32)) ⟨by decide, by decide⟩ (x := (f4 1)) rfl (g := (mkF m 81 #[.val (.ref r0), .val (.int p1), .val (.int (xg 2)), .val (.ref b1), .val (.int (1 : Int32)), .val (.int (3 : Int32)), .val (.int (3 : Int32)), .val (.int (xg 2))] [(.int (1 : Int32)), (.ref b1), (.int (1 : Int32)), (.ref b1)])) rfl rfl (hb hby d6_81) tg k) ?_
      show own_Fin _ _ _ _ _ _ _ (T4.setTop (mkF m 82 #[.val (.ref r0), .val (.int p1), .val (.int (xg 2)), .val (.ref b1), .val (.int (1 : Int32)), .val (.int (3 : Int32)), .val (.int (3 : Int32)), .val (.int (xg 2))] [(.int (f4 1)), (.int (1 : Int32)), (.ref b1)]))
      refine own_go (fun _ k => XS.aloadN X4.here hx rfl (hb hby d6_82) rfl rfl k) ?_
      refine own_go (fun _ k => XS.iload X4.here hx rfl (hb hby d6_83) rfl k) ?_
      refine own_go (fun _ k => XS.iconst X4.here hx rfl (hb hby d6_85) k) ?_
      refine own_go (fun _ k => XS.isub X4.here hx rfl (hb hby d6_86) rfl k) ?_
      show own_Fin _ _ _ _ _ _ _ (T4.setTop (mkF m 87 #[.val (.ref r0), .val (.int p1), .val (.int (xg 2)), .val (.ref b1), .val (.int (1 : Int32)), .val (.int (3 : Int32)), .val (.int (3 : Int32)), .val (.int (xg 2))] [(.int (0 : Int32)), (.ref b1), (.int (f4 1)), (.int (1 : Int32)), (.ref b1)]))
      refine own_go (fun tg k => own_iaload X4 hx hZ e4 A_b1_4 (j := (0 : Int32)) ⟨by decide, by decide⟩ (x := (f4 0)) rfl (g := (mkF m 87 #[.val (.ref r0), .val (.int p1), .val (.int (xg 2)), .val (.ref b1), .val (.int (1 : Int32)), .val (.int (3 : Int32)), .val (.int (3 : Int32)), .val (.int (xg 2))] [(.int (0 : Int32)), (.ref b1), (.int (f4 1)), (.int (1 : Int32)), (.ref b1)])) rfl rfl (hb hby d6_87) tg k) ?_
      show own_Fin _ _ _ _ _ _ _ (T4.setTop (mkF m 88 #[.val (.ref r0), .val (.int p1), .val (.int (xg 2)), .val (.ref b1), .val (.int (1 : Int32)), .val (.int (3 : Int32)), .val (.int (3 : Int32)), .val (.int (xg 2))] [(.int (f4 0)), (.int (f4 1)), (.int (1 : Int32)), (.ref b1)]))
      refine own_go (fun _ k => XS.iadd X4.here hx rfl (hb hby d6_88) rfl k) ?_
      show own_Fin _ _ _ _ _ _ _ (T4.setTop (mkF m 89 #[.val (.ref r0), .val (.int p1), .val (.int (xg 2)), .val (.ref b1), .val (.int (1 : Int32)), .val (.int (3 : Int32)), .val (.int (3 : Int32)), .val (.int (xg 2))] [(.int ((f4 1) + (f4 0))), (.int (1 : Int32)), (.ref b1)]))
      obtain ⟨T8, h8, X8, e8, W8, A_b1_8, st8⟩ := own_stI X4 hx hZ e4 A_b1_4 (j := (1 : Int32)) ⟨by decide, by decide⟩ (g := (mkF m 89 #[.val (.ref r0), .val (.int p1), .val (.int (xg 2)), .val (.ref b1), .val (.int (1 : Int32)), .val (.int (3 : Int32)), .val (.int (3 : Int32)), .val (.int (xg 2))] [(.int ((f4 1) + (f4 0))), (.int (1 : Int32)), (.ref b1)])) rfl rfl (hb hby d6_89)
      have A_r0_8 := A_r0_4.other W8 ne_r0_b1
      have K8 := K4.wr W8 (Or.inr sz_b1)
      have N8 := Fr.snoc X8 N4 ge_b1
      have Z8 : n0 ≤ h8.size := Nat.le_trans Z4 (Keep.of_wr W8).1
      obtain ⟨f8, hf8⟩ : ∃ z, z = (own_set f4 (1 : Int32) ((f4 1) + (f4 0))) := ⟨_, rfl⟩
      rw [← hf8] at A_b1_8
      refine own_go (fun tg k => st8 tg k) ?_
      show own_Fin _ _ _ _ _ _ _ (T8.setTop (mkF m 90 #[.val (.ref r0), .val (.int p1), .val (.int (xg 2)), .val (.ref b1), .val (.int (1 : Int32)), .val (.int (3 : Int32)), .val (.int (3 : Int32)), .val (.int (xg 2))] []))
      refine own_go (fun _ k => XS.iinc X8.here hx rfl (hb hby d6_90) rfl (l' := #[.val (.ref r0), .val (.int p1), .val (.int (xg 2)), .val (.ref b1), .val (.int (2 : Int32)), .val (.int (3 : Int32)), .val (.int (3 : Int32)), .val (.int (xg 2))]) rfl k) ?_
      show own_Fin _ _ _ _ _ _ _ (T8.setTop (mkF m 93 #[.val (.ref r0), .val (.int p1), .val (.int (xg 2)), .val (.ref b1), .val (.int (2 : Int32)), .val (.int (3 : Int32)), .val (.int (3 : Int32)), .val (.int (xg 2))] []))
      refine own_go (fun _ k => XS.goto X8.here hx rfl (pc0 := 93) (pc' := 70) rfl (hb hby d6_93) (by decide) (by decide) k) ?_
      show own_Fin _ _ _ _ _ _ _ (T8.setTop (mkF m 70 #[.val (.ref r0), .val (.int p1), .val (.int (xg 2)), .val (.ref b1), .val (.int (2 : Int32)), .val (.int (3 : Int32)), .val (.int (3 : Int32)), .val (.int (xg 2))] []))
      refine own_go (fun _ k => XS.iload X8.here hx rfl (hb hby d6_70) rfl k) ?_
      refine own_go (fun _ k => XS.aloadN X8.here hx rfl (hb hby d6_72) rfl rfl k) ?_
      refine own_go (fun tg k => own_alen X8 hx hZ e8 A_b1_8 (g := (mkF m 73 #[.val (.ref r0), .val (.int p1), .val (.int (xg 2)), .val (.ref b1), .val (.int (2 : Int32)), .val (.int (3 : Int32)), .val (.int (3 : Int32)), .val (.int (xg 2))] [(.ref b1), (.int (2 : Int32))])) rfl rfl (hb hby d6_73) tg k) ?_
      show own_Fin _ _ _ _ _ _ _ (T8.setTop (mkF m 74 #[.val (.ref r0), .val (.int p1), .val (.int (xg 2)), .val (.ref b1), .val (.int (2 : Int32)), .val (.int (3 : Int32)), .val (.int (3 : Int32)), .val (.int (xg 2))] [(.int (3 : Int32)), (.int (2 : Int32))]))
      refine own_go (fun _ k => XS.icmpNo X8.here hx rfl (hb hby d6_74) rfl (tlt (by decide)).2.1 k) ?_
      show own_Fin _ _ _ _ _ _ _ (T8.setTop (mkF m 77 #[.val (.ref r0), .val (.int p1), .val (.int (xg 2)), .val (.ref b1), .val (.int (2 : Int32)), .val (.int (3 : Int32)), .val (.int (3 : Int32)), .val (.int (xg 2))] []))
      refine own_go (fun _ k => XS.aloadN X8.here hx rfl (hb hby d6_77) rfl rfl k) ?_
      refine own_go (fun _ k => XS.iload X8.here hx rfl (hb hby d6_78) rfl k) ?_
      show own_Fin _ _ _ _ _ _ _ (T8.setTop (mkF m 80 #[.val (.ref r0), .val (.int p1), .val (.int (xg 2)), .val (.ref b1), .val (.int (2 : Int32)), .val (.int (3 : Int32)), .val (.int (3 : Int32)), .val (.int (xg 2))] [(.int (2 : Int32)), (.ref b1)]))
      refine own_go (fun _ k => Jvm.Free.XT.dup2 X8.here hx rfl (hb hby d6_80) rfl rfl rfl k) ?_
      show own_Fin _ _ _ _ _ _ _ (T8.setTop (mkF m 81 #[.val (.ref r0), .val (.int p1), .val (.int (xg 2)), .val (.ref b1), .val (.int (2 : Int32)), .val (.int (3 : Int32)), .val (.int (3 : Int32)), .val (.int (xg 2))] [(.int (2 : Int32)), (.ref b1), (.int (2 : Int32)), (.ref b1)]))
      refine own_go (fun tg k => own_iaload X8 hx hZ e8 A_b1_8 (j := (2 : Int32)) ⟨by decide, by decide⟩ (x := (f8 2)) rfl (g := (mkF m 81 #[.val (.ref r0), .val (.int p1), .val (.int (xg 2)), .val (.ref b1), .val (.int (2 : Int32)), .val (.int (3 : Int32)), .val (.int (3 : Int32)), .val (.int (xg 2))] [(.int (2 : Int32)), (.ref b1), (.int (2 : Int32)), (.ref b1)])) rfl rfl (hb hby d6_81) tg k) ?_
      show own_Fin _ _ _ _ _ _ _ (T8.setTop (mkF m 82 #[.val (.ref r0), .val (.int p1), .val (.int (xg 2)), .val (.ref b1), .val (.int (2 : Int32)), .val (.int (3 : Int32)), .val (.int (3 : Int32)), .val (.int (xg 2))] [(.int (f8 2)), (.int (2 : Int32)), (.ref b1)]))
      refine own_go (fun _ k => XS.aloadN X8.here hx rfl (hb hby d6_82) rfl rfl k) ?_
      refine own_go (fun _ k => XS.iload X8.here hx rfl (hb hby d6_83) rfl k) ?_
      refine own_go (fun _ k => XS.iconst X8.here hx rfl (hb hby d6_85) k) ?_
      refine own_go (fun _ k => XS.isub X8.here hx rfl (hb hby d6_86) rfl k) ?_
      show own_Fin _ _ _ _ _ _ _ (T8.setTop (mkF m 87 #[.val (.ref r0), .val (.int p1), .val (.int (xg 2)), .val (.ref b1), .val (.int (2 : Int32)), .val (.int (3 : Int32)), .val (.int (3 : Int32)), .val (.int (xg 2))] [(.int (1 : Int32)), (.ref b1), (.int (f8 2)), (.int (2 : Int32)), (.ref b1)]))
      refine own_go (fun tg k => own_iaload X8 hx hZ e8 A_b1_8 (j := (1 : Int32)) ⟨by decide, by decide⟩ (x := (f8 1)) rfl (g := (mkF m 87 #[.val (.ref r0), .val (.int p1), .val (.int (xg 2)), .val (.ref b1), .val (.int (2 : Int32)), .val (.int (3 : Int32)), .val (.int (3 : Int32)), .val (.int (xg 2))] [(.int (1 : Int32)), (.ref b1), (.int (f8 2)), (.int (2 : Int32)), (.ref b1)])) rfl rfl (hb hby d6_87) tg k) ?_
      show own_Fin _ _ _ _ _ _ _ (T8.setTop (mkF m 88 #[.val (.ref r0), .val (.int p1), .val (.int (xg 2)), .val (.ref b1), .val (.int (2 : Int32)), .val (.int (3 : Int32)), .val (.int (3 : Int32)), .val (.int (xg 2))] [(.int (f8 1)), (.int (f8 2)), (.int (2 : Int32)), (.ref b1)]))
      refine own_go (fun _ k => XS.iadd X8.here hx rfl (hb hby d6_88) rfl k) ?_
      show own_Fin _ _ _ _ _ _ _ (T8.setTop (mkF m 89 #[.val (.ref r0), .val (.int p1), .val (.int (xg 2)), .val (.ref b1), .val (.int (2 : Int32)), .val (.int (3 : Int32)), .val (.int (3 : Int32)), .val (.int (xg 2))] [(.int ((f8 2) + (f8 1))), (.int (2 : Int32)), (.ref b1)]))
      obtain ⟨T9, h9, X9, e9, W9, A_b1_9, st9⟩ := own_stI X8 hx hZ e8 A_b1_8 (j := (2 : Int32)) ⟨by decide, by decide⟩ (g := (mkF m 89 #[.val (.ref r0), .val (.int p1), .val (.int (xg 2)), .val (.ref b1), .val (.int (2 : Int32)), .val (.int (3 : Int32)), .val (.int (3 : Int32)), .val (.int (xg 2))] [(.int ((f8 2) + (f8 1))), (.int (2 : Int32)), (.ref b1)])) rfl rfl (hb hby d6_89)
      have A_r0_9 := A_r0_8.other W9 ne_r0_b1
      have K9 := K8.wr W9 (Or.inr sz_b1)
      have N9 := Fr.snoc X9 N8 ge_b1
      have Z9 : n0 ≤ h9.size := Nat.le_trans Z8 (Keep.of_wr W9).1
      obtain ⟨f9, hf9⟩ : ∃ z, z = (own_set f8 (2 : Int32) ((f8 2) + (f8 1))) := ⟨_, rfl⟩
      rw [← hf9] at A_b1_9
      refine own_go (fun tg k => st9 tg k) ?_
      show own_Fin _ _ _ _ _ _ _ (T9.setTop (mkF m 90 #[.val (.ref r0), .val (.int p1), .val (.int (xg 2)), .val (.ref b1), .val (.int (2 : Int32)), .val (.int (3 : Int32)), .val (.int (3 : Int32)), .val (.int (xg 2))] []))
      refine own_go (fun _ k => XS.iinc X9.here hx rfl (hb hby d6_90) rfl (l' := #[.val (.ref r0), .val (.int p1), .val (.int (xg 2)), .val (.ref b1), .val (.int (3 : Int32)), .val (.int (3 : Int32)), .val (.int (3 : Int32)), .val (.int (xg 2))]) rfl k) ?_
      show own_Fin _ _ _ _ _ _ _ (T9.setTop (mkF m 93 #[.val (.ref r0), .val (.int p1), .val (.int (xg 2)), .val (.ref b1), .val (.int (3 : Int32)), .val (.int (3 : Int32)), .val (.int (3 : Int32)), .val (.int (xg 2))] []))
      refine own_go (fun _ k => XS.goto X9.here hx rfl (pc0 := 93) (pc' := 70) rfl (hb hby d6_93) (by decide) (by decide) k) ?_
      show own_Fin _ _ _ _ _ _ _ (T9.setTop (mkF m 70 #[.val (.ref r0), .val (.int p1), .val (.int (xg 2)), .val (.ref b1), .val (.int (3 : Int32)), .val (.int (3 : Int32)), .val (.int (3 : Int32)), .val (.int (xg 2))] []))
      refine own_go (fun _ k => XS.iload X9.here hx rfl (hb hby d6_70) rfl k) ?_
      refine own_go (fun _ k => XS.aloadN X9.here hx rfl (hb hby d6_72) rfl rfl k) ?_
      refine own_go (fun tg k => own_alen X9 hx hZ e9 A_b1_9 (g := (mkF m 73 #[.val (.ref r0), .val (.int p1), .val (.int (xg 2)), .val (.ref b1), .val (.int (3 : Int32)), .val (.int (3 : Int32)), .val (.int (3 : Int32)), .val (.int (xg 2))] [(.ref b1), (.int (3 : Int32))])) rfl rfl (hb hby d6_73) tg k) ?_
      show own_Fin _ _ _ _ _ _ _ (T9.setTop (mkF m 74 #[.val (.ref r0), .val (.int p1), .val (.int (xg 2)), .val (.ref b1), .val (.int (3 : Int32)), .val (.int (3 : Int32)), .val (.int (3 : Int32)), .val (.int (xg 2))] [(.int (3 : Int32)), (.int (3 : Int32))]))
      refine own_go (fun _ k => XS.icmpYes X9.here hx rfl (pc0 := 74) (pc' := 96) rfl (hb hby d6_74) rfl (flt (by decide)).2.1 (by decide) (by decide) k) ?_
      show own_Fin _ _ _ _ _ _ _ (T9.setTop (mkF m 96 #[.val (.ref r0), .val (.int p1), .val (.int (xg 2)), .val (.ref b1), .val (.int (3 : Int32)), .val (.int (3 : Int32)), .val (.int (3 : Int32)), .val (.int (xg 2))] []))
      refine own_go (fun _ k => XS.aloadN X9.here hx rfl (hb hby d6_96) rfl rfl k) ?_
      show own_Fin _ _ _ _ _ _ _ (T9.setTop (mkF m 97 #[.val (.ref r0), .val (.int p1), .val (.int (xg 2)), .val (.ref b1), .val (.int (3 : Int32)), .val (.int (3 : Int32)), .val (.int (3 : Int32)), .val (.int (xg 2))] [(.ref b1)]))
      refine own_ret X9 hx hlk Bd.returns rfl (Or.inr (Or.inr (Or.inr (Or.inr ⟨rfl, rfl, rfl⟩)))) (hb hby d6_97) (Nat.le_of_ble_eq_true rfl) (Nat.le_of_ble_eq_true rfl) ?_
      rw [e9]
      refine ⟨b1, f9, ?_, N9, K9, sz_b1, ?_, ?_⟩
      · first | (simp only [if_neg hs5, if_pos hs7]; done) | (simp only [if_neg hs5, if_pos hs7]; rfl) | rfl
      · (first | exact A_b1_9 | (rw [hs7]; exact A_b1_9))
      · first | (exact own_bspec3 hp hs7 hf2 hf3 hf4 hf8 hf9) | (simp only [if_neg hs5, if_pos hs7]; exact own_bspec3 hp hs7 hf2 hf3 hf4 hf8 hf9)
    · have hs10 : ((own_iushr (xg 2) p1) + (2 : Int32)) = (4 : Int32) := own_len4 hp hs5 hs7
      try rw [hs10]
      show own_Fin _ _ _ _ _ _ _ (T4.setTop (mkF m 67 #[.val (.ref r0), .val (.int p1), .val (.int (xg 2)), .val (.ref b1), .val (.ref r0), .val (.int (3 : Int32)), .val (.int (3 : Int32)), .val (.int (xg 2))] []))
      rw [hs10] at A_b1_4
      refine own_go (fun _ k => XS.iconst X4.here hx rfl (hb hby d6_67) k) ?_
      refine own_go (fun _ k => XS.istore X4.here hx rfl (hb hby d6_68) rfl (l' := #[.val (.ref r0), .val (.int p1), .val (.int (xg 2)), .val (.ref b1), .val (.int (1 : Int32)), .val (.int (3 : Int32)), .val (.int (3 : Int32)), .val (.int (xg 2))]) rfl k) ?_
      show own_Fin _ _ _ _ _ _ _ (T4.setTop (mkF m 70 #[.val (.ref r0), .val (.int p1), .val (.int (xg 2)), .val (.ref b1), .val (.int (1 : Int32)), .val (.int (3 : Int32)), .val (.int (3 : Int32)), .val (.int (xg 2))] []))
      refine own_go (fun _ k => XS.iload X4.here hx rfl (hb hby d6_70) rfl k) ?_
      refine own_go (fun _ k => XS.aloadN X4.here hx rfl (hb hby d6_72) rfl rfl k) ?_
      refine own_go (fun tg k => own_alen X4 hx hZ e4 A_b1_4 (g := (mkF m 73 #[.val (.ref r0), .val (.int p1), .val (.int (xg 2)), .val (.ref b1), .val (.int (1 : Int32)), .val (.int (3 : Int32)), .val (.int (3 : Int32)), .val (.int (xg 2))] [(.ref b1), (.int (1 : Int32))])) rfl rfl (hb hby d6_73) tg k) ?_
      show own_Fin _ _ _ _ _ _ _ (T4.setTop (mkF m 74 #[.val (.ref r0), .val (.int p1), .val (.int (xg 2)), .val (.ref b1), .val (.int (1 : Int32)), .val (.int (3 : Int32)), .val (.int (3 : Int32)), .val (.int (xg 2))] [(.int (4 : Int32)), (.int (1 : Int32))]))
      refine own_go (fun _ k => XS.icmpNo X4.here hx rfl (hb hby d6_74) rfl (tlt (by decide)).2.1 k) ?_
      show own_Fin _ _ _ _ _ _ _ (T4.setTop (mkF m 77 #[.val (.ref r0), .val (.int p1), .val (.int (xg 2)), .val (.ref b1), .val (.int (1 : Int32)), .val (.int (3 : Int32)), .val (.int (3 : Int32)), .val (.int (xg 2))] []))
      refine own_go (fun _ k => XS.aloadN X4.here hx rfl (hb hby d6_77) rfl rfl k) ?_
      refine own_go (fun _ k => XS.iload X4.here hx rfl (hb hby d6_78) rfl k) ?_
      show own_Fin _ _ _ _ _ _ _ (T4.setTop (mkF m 80 #[.val (.ref r0), .val (.int p1), .val (.int (xg 2)), .val (.ref b1), .val (.int (1 : Int32)), .val (.int (3 : Int32)), .val (.int (3 : Int32)), .val (.int (xg 2))] [(.int (1 : Int32)), (.ref b1)]))
      refine own_go (fun _ k => Jvm.Free.XT.dup2 X4.here hx rfl (hb hby d6_80) rfl rfl rfl k) ?_
      show own_Fin _ _ _ _ _ _ _ (T4.setTop (mkF m 81 #[.val (.ref r0), .val (.int p1), .val (.int (xg 2)), .val (.ref b1), .val (.int (1 : Int32)), .val (.int (3 : Int32)), .val (.int (3 : Int32)), .val (.int (xg 2))] [(.int (1 : Int32)), (.ref b1), (.int (1 : Int32)), (.ref b1)]))
      refine own_go (fun tg k => own_iaload X4 hx hZ e4 A_b1_4 (j := (1 : Int32)) ⟨by decide, by decide⟩ (x := (f4 1)) rfl (g := (mkF m 81 #[.val (.ref r0), .val (.int p1), .val (.int (xg 2)), .val (.ref b1), .val (.int (1 : Int32)), .val (.int (3 : Int32)), .val (.int (3 : Int32)), .val (.int (xg 2))] [(.int (1 : Int32)), (.ref b1), (.int (1 : Int32)), (.ref b1)])) rfl rfl (hb hby d6_81) tg k) ?_
      show own_Fin _ _ _ _ _ _ _ (T4.setTop (mkF m 82 #[.val (.ref r0), .val (.int p1), .val (.int (xg 2)), .val (.ref b1), .val (.int (1 : Int32)), .val (.int (3 : Int32)), .val (.int (3 : Int32)), .val (.int (xg 2))] [(.int (f4 1)), (.int (1 : Int32)), (.ref b1)]))
      refine own_go (fun _ k => XS.aloadN X4.here hx rfl (hb hby d6_82) rfl rfl k) ?_
      refine own_go (fun _ k => XS.iload X4.here hx rfl (hb hby d6_83) rfl k) ?_
      refine own_go (fun _ k => XS.iconst X4.here hx rfl (hb hby d6_85) k) ?_
      refine own_go (fun _ k => XS.isub X4.here hx rfl (hb hby d6_86) rfl k) ?_
      show own_Fin _ _ _ _ _ _ _ (T4.setTop (mkF m 87 #[.val (.ref r0), .val (.int p1), .val (.int (xg 2)), .val (.ref b1), .val (.int (1 : Int32)), .val (.int (3 : Int32)), .val (.int (3 : Int32)), .val (.int (xg 2))] [(.int (0 : Int32)), (.ref b1), (.int (f4 1)), (.int (1 : Int32)), (.ref b1)]))
      refine own_go (fun tg k => own_iaload X4 hx hZ e4 A_b1_4 (j := (0 : Int32)) ⟨by decide, by decide⟩ (x := (f4 0)) rfl (g := (mkF m 87 #[.val (.ref r0), .val (.int p1), .val (.int (xg 2)), .val (.ref b1), .val (.int (1 : Int32)), .val (.int (3 : Int32)), .val (.int (3 : Int32)), .val (.int (xg 2))] [(.int (0 : Int32)), (.ref b1), (.int (f4 1)), (.int (1 : Int32)), (.ref b1)])) rfl rfl (hb hby d6_87) tg k) ?_
      show own_Fin _ _ _ _ _ _ _ (T4.setTop (mkF m 88 #[.val (.ref r0), .val (.int p1), .val (.int (xg 2)), .val (.ref b1), .val (.int (1 : Int32)), .val (.int (3 : Int32)), .val (.int (3 : Int32)), .val (.int (xg 2))] [(.int (f4 0)), (.int (f4 1)), (.int (1 : Int32)), (.ref b1)]))
      refine own_go (fun _ k => XS.iadd X4.here hx rfl (hb hby d6_88) rfl k) ?_
      show own_Fin _ _ _ _ _ _ _ (T4.setTop (mkF m 89 #[.val (.ref r0), .val (.int p1), .val (.int (xg 2)), .val (.ref b1), .val (.int (1 : Int32)), .val (.int (3 : Int32)), .val (.int (3 : Int32)), .val (.int (xg 2))] [(.int ((f4 1) + (f4 0))), (.int (1 : Int32)), (.ref b1)]))
      obtain ⟨T11, h11, X11, e11, W11, A_b1_11, st11⟩ := own_stI X4 hx hZ e4 A_b1_4 (j := (1 : Int32)) ⟨by decide, by decide⟩ (g := (mkF m 89 #[.val (.ref r0), .val (.int p1), .val (.int (xg 2)), .val (.ref b1), .val (.int (1 : Int32)), .val (.int (3 : Int32)), .val (.int (3 : Int32)), .val (.int (xg 2))] [(.int ((f4 1) + (f4 0))), (.int (1 : Int32)), (.ref b1)])) rfl rfl (hb hby d6_89)
      have A_r0_11 := A_r0_4.other W11 ne_r0_b1
      have K11 := K4.wr W11 (Or.inr sz_b1)
      have N11 := Fr.snoc X11 N4 ge_b1
      have Z11 : n0 ≤ h11.size := Nat.le_trans Z4 (Keep.of_wr W11).1
      obtain ⟨f11, hf11⟩ : ∃ z, z = (own_set f4 (1 : Int32) ((f4 1) + (f4 0))) := ⟨_, rfl⟩
      rw [← hf11] at A_b1_11
      refine own_go (fun tg k => st11 tg k) ?_
      show own_Fin _ _ _ _ _ _ _ (T11.setTop (mkF m 90 #[.val (.ref r0), .val (.int p1), .val (.int (xg 2)), .val (.ref b1), .val (.int (1 : Int32)), .val (.int (3 : Int32)), .val (.int (3 : Int32)), .val (.int (xg 2))] []))
      refine own_go (fun _ k => XS.iinc X11.here hx rfl (hb hby d6_90) rfl (l' := #[.val (.ref r0), .val (.int p1), .val (.int (xg 2)), .val (.ref b1), .val (.int (2 : Int32)), .val (.int (3 : Int32)), .val (.int (3 : Int32)), .val (.int (xg 2))]) rfl k) ?_
      show own_Fin _ _ _ _ _ _ _ (T11.setTop (mkF m 93 #[.val (.ref r0), .val (.int p1), .val (.int (xg 2)), .val (.ref b1), .val (.int (2 : Int32)), .val (.int (3 : Int32)), .val (.int (3 : Int32)), .val (.int (xg 2))] []))
      refine own_go (fun _ k => XS.goto X11.here hx rfl (pc0 := 93) (pc' := 70) rfl (hb hby d6_93) (by decide) (by decide) k) ?_
      show own_Fin _ _ _ _ _ _ _ (T11.setTop (mkF m 70 #[.val (.ref r0), .val (.int p1), .val (.int (xg 2)), .val (.ref b1), .val (.int (2 : Int32)), .val (.int (3 : Int32)), .val (.int (3 : Int32)), .val (.int (xg 2))] []))
      refine own_go (fun _ k => XS.iload X11.here hx rfl (hb hby d6_70) rfl k) ?_
      refine own_go (fun _ k => XS.aloadN X11.here hx rfl (hb hby d6_72) rfl rfl k) ?_
      refine own_go (fun tg k => own_alen X11 hx hZ e11 A_b1_11 (g := (mkF m 73 #[.val (.ref r0), .val (.int p1), .val (.int (xg 2)), .val (.ref b1), .val (.int (2 : Int32)), .val (.int (3 : Int32)), .val (.int (3 : Int32)), .val (.int (xg 2))] [(.ref b1), (.int (2 : Int32))])) rfl rfl (hb hby d6_73) tg k) ?_
      show own_Fin _ _ _ _ _ _ _ (T11.setTop (mkF m 74 #[.val (.ref r0), .val (.int p1), .val (.int (xg 2)), .val (.ref b1), .val (.int (2 : Int32)), .val (.int (3 : Int32)), .val (.int (3 : Int32)), .val (.int (xg 2))] [(.int (4 : Int32)), (.int (2 : Int32))]))
      refine own_go (fun _ k => XS.icmpNo X11.here hx rfl (hb hby d6_74) rfl (tlt (by decide)).2.1 k) ?_
      show own_Fin _ _ _ _ _ _ _ (T11.setTop (mkF m 77 #[.val (.ref r0), .val (.int p1), .val (.int (xg 2)), .val (.ref b1), .val (.int (2 : Int32)), .val (.int (3 : Int32)), .val (.int (3 : Int32)), .val (.int (xg 2))] []))
      refine own_go (fun _ k => XS.aloadN X11.here hx rfl (hb hby d6_77) rfl rfl k) ?_
      refine own_go (fun _ k => XS.iload X11.here hx rfl (hb hby d6_78) rfl k) ?_
      show own_Fin _ _ _ _ _ _ _ (T11.setTop (mkF m 80 #[.val (.ref r0), .val (.int p1), .val (.int (xg 2)), .val (.ref b1), .val (.int (2 : Int32)), .val (.int (3 : Int32)), .val (.int (3 : Int32)), .val (.int (xg 2))] [(.int (2 : Int32)), (.ref b1)]))
      refine own_go (fun _ k => Jvm.Free.XT.dup2 X11.here hx rfl (hb hby d6_80) rfl rfl rfl k) ?_
      show own_Fin _ _ _ _ _ _ _ (T11.setTop (mkF m 81 #[.val (.ref r0), .val (.int p1), .val (.int (xg 2)), .val (.ref b1), .val (.int (2 : Int32)), .val (.int (3 : Int32)), .val (.int (3 : Int32)), .val (.int (xg 2))] [(.int (2 : Int32)), (.ref b1), (.int (2 : Int32)), (.ref b1)]))
      refine own_go (fun tg k => own_iaload X11 hx hZ e11 A_b1_11 (j := (2 : Int32)) ⟨by decide, by decide⟩ (x := (f11 2)) rfl (g := (mkF m 81 #[.val (.ref r0), .val (.int p1), .val (.int (xg 2)), .val (.ref b1), .val (.int (2 : Int32)), .val (.int (3 : Int32)), .val (.int (3 : Int32)), .val (.int (xg 2))] [(.int (2 : Int32)), (.ref b1), (.int (2 : Int32)), (.ref b1)])) rfl rfl (hb hby d6_81) tg k) ?_
      show own_Fin _ _ _ _ _ _ _ (T11.setTop (mkF m 82 #[.val (.ref r0), .val (.int p1), .val (.int (xg 2)), .val (.ref b1), .val (.int (2 : Int32)), .val (.int (3 : Int32)), .val (.int (3 : Int32)), .val (.int (xg 2))] [(.int (f11 2)), (.int (2 : Int32)), (.ref b1)]))
      refine own_go (fun _ k => XS.aloadN X11.here hx rfl (hb hby d6_82) rfl rfl k) ?_
      refine own_go (fun _ k => XS.iload X11.here hx rfl (hb hby d6_83) rfl k) ?_
      refine own_go (fun _ k => XS.iconst X11.here hx rfl (hb hby d6_85) k) ?_
      refine own_go (fun _ k => XS.isub X11.here hx rfl (hb hby d6_86) rfl k) ?_
      show own_Fin _ _ _ _ _ _ _ (T11.setTop (mkF m 87 #[.val (.ref r0), .val (.int p1), .val (.int (xg 2)), .val (.ref b1), .val (.int (2 : Int32)), .val (.int (3 : Int32)), .val (.int (3 : Int32)), .val (.int (xg 2))] [(.int (1 : Int32)), (.ref b1), (.int (f11 2)), (.int (2 : Int32)), (.ref b1)]))
      refine own_go (fun tg k => own_iaload X11 hx hZ e11 A_b1_11 (j := (1 : Int32)) ⟨by decide, by decide⟩ (x := (f11 1)) rfl (g := (mkF m 87 #[.val (.ref r0), .val (.int p1), .val (.int (xg 2)), .val (.ref b1), .val (.int (2 : Int32)), .val (.int (3 : Int32)), .val (.int (3 : Int32)), .val (.int (xg 2))] [(.int (1 : Int32)), (.ref b1), (.int (f11 2)), (.int (2 : Int32)), (.ref b1)])) rfl rfl (hb hby d6_87) tg k) ?_
      show own_Fin _ _ _ _ _ _ _ (T11.setTop (mkF m 88 #[.val (.ref r0), .val (.int p1), .val (.int (xg 2)), .val (.ref b1), .val (.int (2 : Int32)), .val (.int (3 : Int32)), .val (.int (3 : Int32)), .val (.int (xg 2))] [(.int (f11 1)), (.int (f11 2)), (.int (2 : Int32)), (.ref b1)]))
      refine own_go (fun _ k => XS.iadd X11.here hx rfl (hb hby d6_88) rfl k) ?_
      show own_Fin _ _ _ _ _ _ _ (T11.setTop (mkF m 89 #[.val (.ref r0), .val (.int p1), .val (.int (xg 2)), .val (.ref b1), .val (.int (2 : Int32)), .val (.int (3 : Int32)), .val (.int (3 : Int32)), .val (.int (xg 2))] [(.int ((f11 2) + (f11 1))), (.int (2 : Int32)), (.ref b1)]))
      obtain ⟨T12, h12, X12, e12, W12, A_b1_12, st12⟩ := own_stI X11 hx hZ e11 A_b1_11 (j := (2 : Int32)) ⟨by decide, by decide⟩ (g := (mkF m 89 #[.val (.ref r0), .val (.int p1), .val (.int (xg 2)), .val (.ref b1), .val (.int (2 : Int32)), .val (.int (3 : Int32)), .val (.int (3 : Int32)), .val (.int (xg 2))] [(.int ((f11 2) + (f11 1))), (.int (2 : Int32)), (.ref b1)])) rfl rfl (hb hby d6_89)
      have A_r0_12 := A_r0_11.other W12 ne_r0_b1
      have K12 := K11.wr W12 (Or.inr sz_b1)
      have N12 := Fr.snoc X12 N11 ge_b1
      have Z12 : n0 ≤ h12.size := Nat.le_trans Z11 (Keep.of_wr W12).1
      obtain ⟨f12, hf12⟩ : ∃ z, z = (own_set f11 (2 : Int32) ((f11 2) + (f11 1))) := ⟨_, rfl⟩
      rw [← hf12] at A_b1_12
      refine own_go (fun tg k => st12 tg k) ?_
      show own_Fin _ _ _ _ _ _ _ (T12.setTop (mkF m 90 #[.val (.ref r0), .val (.int p1), .val (.int (xg 2)), .val (.ref b1), .val (.int (2 : Int32)), .val (.int (3 : Int32)), .val (.int (3 : Int32)), .val (.int (xg 2))] []))
      refine own_go (fun _ k => XS.iinc X12.here hx rfl (hb hby d6_90) rfl (l' := #[.val (.ref r0), .val (.int p1), .val (.int (xg 2)), .val (.ref b1), .val (.int (3 : Int32)), .val (.int (3 : Int32)), .val (.int (3 : Int32)), .val (.int (xg 2))]) rfl k) ?_
      show own_Fin _ _ _ _ _ _ _ (T12.setTop (mkF m 93 #[.val (.ref r0), .val (.int p1), .val (.int (xg 2)), .val (.ref b1), .val (.int (3 : Int32)), .val (.int (3 : Int32)), .val (.int (3 : Int32)), .val (.int (xg 2))] []))
      refine own_go (fun _ k => XS.goto X12.here hx rfl (pc0 := 93) (pc' := 70) rfl (hb hby d6_93) (by decide) (by decide) k) ?_
      show own_Fin _ _ _ _ _ _ _ (T12.setTop (mkF m 70 #[.val (.ref r0), .val (.int p1), .val (.int (xg 2)), .val (.ref b1), .val (.int (3 : Int32)), .val (.int (3 : Int32)), .val (.int (3 : Int32)), .val (.int (xg 2))] []))
      refine own_go (fun _ k => XS.iload X12.here hx rfl (hb hby d6_70) rfl k) ?_
      refine own_go (fun _ k => XS.aloadN X12.here hx rfl (hb hby d6_72) rfl rfl k) ?_
      refine own_go (fun tg k => own_alen X12 hx hZ e12 A_b1_12 (g := (mkF m 73 #[.val (.ref r0), .val (.int p1), .val (.int (xg 2)), .val (.ref b1), .val (.int (3 : Int32)), .val (.int (3 : Int32)), .val (.int (3 : Int32)), .val (.int (xg 2))] [(.ref b1), (.int (3 : Int32))])) rfl rfl (hb hby d6_73) tg k) ?_
      show own_Fin _ _ _ _ _ _ _ (T12.setTop (mkF m 74 #[.val (.ref r0), .val (.int p1), .val (.int (xg 2)), .val (.ref b1), .val (.int (3 : Int32)), .val (.int (3 : Int32)), .val (.int (3 : Int32)), .val (.int (xg 2))] [(.int (4 : Int32)), (.int (3 : Int32))]))
      refine own_go (fun _ k => XS.icmpNo X12.here hx rfl (hb hby d6_74) rfl (tlt (by decide)).2.1 k) ?_
      show own_Fin _ _ _ _ _ _ _ (T12.setTop (mkF m 77 #[.val (.ref r0), .val (.int p1), .val (.int (xg 2)), .val (.ref b1), .val (.int (3 : Int32)), .val (.int (3 : Int32)), .val (.int (3 : Int32)), .val (.int (xg 2))] []))
      refine own_go (fun _ k => XS.aloadN X12.here hx rfl (hb hby d6_77) rfl rfl k) ?_
      refine own_go (fun _ k => XS.iload X12.here hx rfl (hb hby d6_78) rfl k) ?_
      show own_Fin _ _ _ _ _ _ _ (T12.setTop (mkF m 80 #[.val (.ref r0), .val (.int p1), .val (.int (xg 2)), .val (.ref b1), .val (.int (3 : Int32)), .val (.int (3 : Int32)), .val (.int (3 : Int32)), .val (.int (xg 2))] [(.int (3 : Int32)), (.ref b1)]))
      refine own_go (fun _ k => Jvm.Free.XT.dup2 X12.here hx rfl (hb hby d6_80) rfl rfl rfl k) ?_
      show own_Fin _ _ _ _ _ _ _ (T12.setTop (mkF m 81 #[.val (.ref r0), .val (.int p1), .val (.int (xg 2)), .val (.ref b1), .val (.int (3 : Int32)), .val (.int (3 : Int32)), .val (.int (3 : Int32)), .val (.int (xg 2))] [(.int (3 : Int32)), (.ref b1), (.int (3 : Int32)), (.ref b1)]))
      refine own_go (fun tg k => own_iaload X12 hx hZ e12 A_b1_12 (j := (3 : Int32)) ⟨by decide, by decide⟩ (x := (f12 3)) rfl (g := (mkF m 81 #[.val (.ref r0), .val (.int p1), .val (.int (xg 2)), .val (.ref b1), .val (.int (3 : Int32)), .val (.int (3 : Int32)), .val (.int (3 : Int32)), .val (.int (xg 2))] [(.int (3 : Int32)), (.ref b1), (.int (3 : Int32)), (.ref b1)])) rfl rfl (hb hby d6_81) tg k) ?_
      show own_Fin _ _ _ _ _ _ _ (T12.setTop (mkF m 82 #[.val (.ref r0), .val (.int p1), .val (.int (xg 2)), .val (.ref b1), .val (.int (3 : Int32)), .val (.int (3 : Int32)), .val (.int (3 : Int32)), .val (.int (xg 2))] [(.int (f12 3)), (.int (3 : Int32)), (.ref b1)]))
      refine own_go (fun _ k => XS.aloadN X12.here hx rfl (hb hby d6_82) rfl rfl k) ?_
      refine own_go (fun _ k => XS.iload X12.here hx rfl (hb hby d6_83) rfl k) ?_
      refine own_go (fun _ k => XS.iconst X12.here hx rfl (hb hby d6_85) k) ?_
      refine own_go (fun _ k => XS.isub X12.here hx rfl (hb hby d6_86) rfl k) ?_
      show own_Fin _ _ _ _ _ _ _ (T12.setTop (mkF m 87 #[.val (.ref r0), .val (.int p1), .val (.int (xg 2)), .val (.ref b1), .val (.int (3 : Int32)), .val (.int (3 : Int32)), .val (.int (3 : Int32)), .val (.int (xg 2))] [(.int (2 : Int32)), (.ref b1), (.int (f12 3)), (.int (3 : Int32)), (.ref b1)]))
      refine own_go (fun tg k => own_iaload X12 hx hZ e12 A_b1_12 (j := (2 : Int32)) ⟨by decide, by decide⟩ (x := (f12 2)) rfl (g := (mkF m 87 #[.val (.ref r0), .val (.int p1), .val (.int (xg 2)), .val (.ref b1), .val (.int (3 : Int32)), .val (.int (3 : Int32)), .val (.int (3 : Int32)), .val (.int (xg 2))] [(.int (2 : Int32)), (.ref b1), (.int (f12 3)), (.int (3 : Int32)), (.ref b1)])) rfl rfl (hb hby d6_87) tg k) ?_
      show own_Fin _ _ _ _ _ _ _ (T12.setTop (mkF m 88 #[.val (.ref r0), .val (.int p1), .val (.int (xg 2)), .val (.ref b1), .val (.int (3 : Int32)), .val (.int (3 : Int32)), .val (.int (3 : Int32)), .val (.int (xg 2))] [(.int (f12 2)), (.int (f12 3)), (.int (3 : Int32)), (.ref b1)]))
      refine own_go (fun _ k => XS.iadd X12.here hx rfl (hb hby d6_88) rfl k) ?_
      show own_Fin _ _ _ _ _ _ _ (T12.setTop (mkF m 89 #[.val (.ref r0), .val (.int p1), .val (.int (xg 2)), .val (.ref b1), .val (.int (3 : Int32)), .val (.int (3 : Int32)), .val (.int (3 : Int32)), .val (.int (xg 2))] [(.int ((f12 3) + (f12 2))), (.int (3 : Int32)), (.ref b1)]))
      obtain ⟨T13, h13, X13, e13, W13, A_b1_13, st13⟩ := own_stI X12 hx hZ e12 A_b1_12 (j := (3 : Int32)) ⟨by decide, by decide⟩ (g := (mkF m 89 #[.val (.ref r0), .val (.int p1), .val (.int (xg 2)), .val (.ref b1), .val (.int (3 : Int32)), .val (.int (3 : Int32)), .val (.int (3 : Int32)), .val (.int (xg 2))] [(.int ((f12 3) + (f12 2))), (.int (3 : Int32)), (.ref b1)])) rfl rfl (hb hby d6_89)
      have A_r0_13 := A_r0_12.other W13 ne_r0_b1
      have K13 := K12.wr W13 (Or.inr sz_b1)
      have N13 := Fr.snoc X13 N12 ge_b1
      have Z13 : n0 ≤ h13.size := Nat.le_trans Z12 (Keep.of_wr W13).1
      obtain ⟨f13, hf13⟩ : ∃ z, z = (own_set f12 (3 : Int32) ((f12 3) + (f12 2))) := ⟨_, rfl⟩
      rw [← hf13] at A_b1_13
      refine own_go (fun tg k => st13 tg k) ?_
      show own_Fin _ _ _ _ _ _ _ (T13.setTop (mkF m 90 #[.val (.ref r0), .val (.int p1), .val (.int (xg 2)), .val (.ref b1), .val (.int (3 : Int32)), .val (.int (3 : Int32)), .val (.int (3 : Int32)), .val (.int (xg 2))] []))
      refine own_go (fun _ k => XS.iinc X13.here hx rfl (hb hby d6_90) rfl (l' := #[.val (.ref r0), .val (.int p1), .val (.int (xg 2)), .val (.ref b1), .val (.int (4 : Int32)), .val (.int (3 : Int32)), .val (.int (3 : Int32)), .val (.int (xg 2))]) rfl k) ?_
      show own_Fin _ _ _ _ _ _ _ (T13.setTop (mkF m 93 #[.val (.ref r0), .val (.int p1), .val (.int (xg 2)), .val (.ref b1), .val (.int (4 : Int32)), .val (.int (3 : Int32)), .val (.int (3 : Int32)), .val (.int (xg 2))] []))
      refine own_go (fun _ k => XS.goto X13.here hx rfl (pc0 := 93) (pc' := 70) rfl (hb hby d6_93) (by decide) (by decide) k) ?_
      show own_Fin _ _ _ _ _ _ _ (T13.setTop (mkF m 70 #[.val (.ref r0), .val (.int p1), .val (.int (xg 2)), .val (.ref b1), .val (.int (4 : Int32)), .val (.int (3 : Int32)), .val (.int (3 : Int32)), .val (.int (xg 2))] []))
      refine own_go (fun _ k => XS.iload X13.here hx rfl (hb hby d6_70) rfl k) ?_
      refine own_go (fun _ k => XS.aloadN X13.here hx rfl (hb hby d6_72) rfl rfl k) ?_
      refine own_go (fun tg k => own_alen X13 hx hZ e13 A_b1_13 (g := (mkF m 73 #[.val (.ref r0), .val (.int p1), .val (.int (xg 2)), .val (.ref b1), .val (.int (4 : Int32)), .val (.int (3 : Int32)), .val (.int (3 : Int32)), .val (.int (xg 2))] [(.ref b1), (.int (4 : Int32))])) rfl rfl (hb hby d6_73) tg k) ?_
      show own_Fin _ _ _ _ _ _ _ (T13.setTop (mkF m 74 #[.val (.ref r0), .val (.int p1), .val (.int (xg 2)), .val (.ref b1), .val (.int (4 : Int32)), .val (.int (3 : Int32)), .val (.int (3 : Int32)), .val (.int (xg 2))] [(.int (4 : Int32)), (.int (4 : Int32))]))
      refine own_go (fun _ k => XS.icmpYes X13.here hx rfl (pc0 := 74) (pc' := 96) rfl (hb hby d6_74) rfl (flt (by decide)).2.1 (by decide) (by decide) k) ?_
      show own_Fin _ _ _ _ _ _ _ (T13.setTop (mkF m 96 #[.val (.ref r0), .val (.int p1), .val (.int (xg 2)), .val (.ref b1), .val (.int (4 : Int32)), .val (.int (3 : Int32)), .val (.int (3 : Int32)), .val (.int (xg 2))] []))
      refine own_go (fun _ k => XS.aloadN X13.here hx rfl (hb hby d6_96) rfl rfl k) ?_
      show own_Fin _ _ _ _ _ _ _ (T13.setTop (mkF m 97 #[.val (.ref r0), .val (.int p1), .val (.int (xg 2)), .val (.ref b1), .val (.int (4 : Int32)), .val (.int (3 : Int32)), .val (.int (3 : Int32)), .val (.int (xg 2))] [(.ref b1)]))
      refine own_ret X13 hx hlk Bd.returns rfl (Or.inr (Or.inr (Or.inr (Or.inr ⟨rfl, rfl, rfl⟩)))) (hb hby d6_97) (Nat.le_of_ble_eq_true rfl) (Nat.le_of_ble_eq_true rfl) ?_
      rw [e13]
      refine ⟨b1, f13, ?_, N13, K13, sz_b1, ?_, ?_⟩
      · first | (simp only [if_neg hs5, if_neg hs7]; done) | (simp only [if_neg hs5, if_neg hs7]; rfl) | rfl
      · (first | exact A_b1_13 | (rw [hs10]; exact A_b1_13))
      · first | (exact own_bspec4 hp hs10 hf2 hf3 hf4 hf11 hf12 hf13) | (simp only [if_neg hs5, if_neg hs7]; exact own_bspec4 hp hs10 hf2 hf3 hf4 hf11 hf12 hf13)
def own_srt (g : Nat → Int32) : Prop := 0 ≤ (g 0).toInt ∧ (g 0).toInt ≤ (g 1).toInt ∧ (g 1).toInt ≤ (g 2).toInt ∧ (g 2).toInt < 48
theorem own_srt1 {g : Nat → Int32} (h : own_srt g) : 0 ≤ (g 2).toInt ∧ (g 2).toInt < 48 := by unfold own_srt at h; omega
theorem own_okBk {g : Nat → Int32} (h : own_srt g) (k : Int32) (n : Nat) (D : Int) (hk : k.toBitVec.toNat % 32 = n) (hD : ((2 ^ n : Nat) : Int) = D) (h0 : 0 < D) (hc : (g 2).toInt / D ≤ 2) : own_okB g k := by
  obtain ⟨a1, a2, a3, a4⟩ := h
  refine ⟨((g 0).toInt / D).toNat, ((g 1).toInt / D).toNat, ((g 2).toInt / D).toNat, ?_, ?_, ?_, ?_, ?_, ?_⟩
  · rw [own_shr _ k n hk a1, hD]; have := Int.ediv_nonneg a1 (Int.le_of_lt h0); omega
  · rw [own_shr _ k n hk (by omega), hD]; have := Int.ediv_nonneg (show 0 ≤ (g 1).toInt by omega) (Int.le_of_lt h0); omega
  · rw [own_shr _ k n hk (by omega), hD]; have := Int.ediv_nonneg (show 0 ≤ (g 2).toInt by omega) (Int.le_of_lt h0); omega
  · have := Int.ediv_le_ediv h0 a2; omega
  · have := Int.ediv_le_ediv h0 a3; omega
  · omega
theorem own_srt2 {g : Nat → Int32} (h : own_srt g) : own_okB g (own_f4 g) := by
  have h2 := own_srt1 h
  have M : (3 : Int32).toInt = 3 := by decide
  have s0 := own_shr (g 2) 0 0 (by decide) h2.1
  have s1 := own_shr (g 2) 1 1 (by decide) h2.1
  have s2 := own_shr (g 2) 2 2 (by decide) h2.1
  have s3 := own_shr (g 2) 3 3 (by decide) h2.1
  simp only [own_f4, own_mx, Int32.lt_iff_toInt_lt, s0, s1, s2, s3, M]
  repeat' split
  · exact own_okBk h 0 0 1 (by decide) (by decide) (by decide) (by rename_i q; rw [show ((2 ^ 0 : Nat) : Int) = 1 from by decide] at q; omega)
  · exact own_okBk h 1 1 2 (by decide) (by decide) (by decide) (by rename_i q; rw [show ((2 ^ 1 : Nat) : Int) = 2 from by decide] at q; omega)
  · exact own_okBk h 2 2 4 (by decide) (by decide) (by decide) (by rename_i q; rw [show ((2 ^ 2 : Nat) : Int) = 4 from by decide] at q; omega)
  · exact own_okBk h 3 3 8 (by decide) (by decide) (by decide) (by rename_i q; rw [show ((2 ^ 3 : Nat) : Int) = 8 from by decide] at q; omega)
  · exact own_okBk h 4 4 16 (by decide) (by decide) (by decide) (by omega)

theorem own_sn100 {Z : State} {a0 : Array Value} (hw : ∀ d ∈ tables_1, d.before a0 Z = true) : Jvm.RoadKit.slotOf Z "com/example/reachability/reachability/CandidateList" "runs" "[I" ≠ Jvm.RoadKit.slotOf Z "com/example/reachability/reachability/CandidateList" "search" "I" := slot_ne (Or.inl (hw _ (List.mem_of_getElem? (i := 17) rfl))) (Or.inl (hw _ (List.mem_of_getElem? (i := 15) rfl))) (by decide) (t := (.array .int)) (t' := .int) (by decide) (by decide)
theorem own_sn101 {Z : State} {a0 : Array Value} (hw : ∀ d ∈ tables_1, d.before a0 Z = true) : Jvm.RoadKit.slotOf Z "com/example/reachability/reachability/CandidateList" "numbers" "[I" ≠ Jvm.RoadKit.slotOf Z "com/example/reachability/reachability/CandidateList" "search" "I" := slot_ne (Or.inr (hw _ (List.mem_of_getElem? (i := 19) rfl))) (Or.inl (hw _ (List.mem_of_getElem? (i := 15) rfl))) (by decide) (t := (.array .int)) (t' := .int) (by decide) (by decide)
theorem own_sn102 {Z : State} {a0 : Array Value} (hw : ∀ d ∈ tables_1, d.before a0 Z = true) : Jvm.RoadKit.slotOf Z "com/example/reachability/reachability/CandidateList" "elements" "[I" ≠ Jvm.RoadKit.slotOf Z "com/example/reachability/reachability/CandidateList" "search" "I" := slot_ne (Or.inr (hw _ (List.mem_of_getElem? (i := 21) rfl))) (Or.inl (hw _ (List.mem_of_getElem? (i := 15) rfl))) (by decide) (t := (.array .int)) (t' := .int) (by decide) (by decide)
theorem own_sn103 {Z : State} {a0 : Array Value} (hw : ∀ d ∈ tables_1, d.before a0 Z = true) : Jvm.RoadKit.slotOf Z "com/example/reachability/reachability/CandidateList" "foundIn" "[I" ≠ Jvm.RoadKit.slotOf Z "com/example/reachability/reachability/CandidateList" "search" "I" := slot_ne (Or.inr (hw _ (List.mem_of_getElem? (i := 23) rfl))) (Or.inl (hw _ (List.mem_of_getElem? (i := 15) rfl))) (by decide) (t := (.array .int)) (t' := .int) (by decide) (by decide)
theorem own_sn104 {Z : State} {a0 : Array Value} (hw : ∀ d ∈ tables_1, d.before a0 Z = true) : Jvm.RoadKit.slotOf Z "com/example/reachability/reachability/CandidateList" "next" "[I" ≠ Jvm.RoadKit.slotOf Z "com/example/reachability/reachability/CandidateList" "search" "I" := slot_ne (Or.inr (hw _ (List.mem_of_getElem? (i := 25) rfl))) (Or.inl (hw _ (List.mem_of_getElem? (i := 15) rfl))) (by decide) (t := (.array .int)) (t' := .int) (by decide) (by decide)
theorem own_sn105 {Z : State} {a0 : Array Value} (hw : ∀ d ∈ tables_1, d.before a0 Z = true) : Jvm.RoadKit.slotOf Z "com/example/reachability/reachability/CandidateList" "found" "[I" ≠ Jvm.RoadKit.slotOf Z "com/example/reachability/reachability/CandidateList" "search" "I" := slot_ne (Or.inr (hw _ (List.mem_of_getElem? (i := 27) rfl))) (Or.inl (hw _ (List.mem_of_getElem? (i := 15) rfl))) (by decide) (t := (.array .int)) (t' := .int) (by decide) (by decide)
theorem own_sn106 {Z : State} {a0 : Array Value} (hw : ∀ d ∈ tables_1, d.before a0 Z = true) : Jvm.RoadKit.slotOf Z "com/example/reachability/reachability/CandidateList" "bucketShift" "I" ≠ Jvm.RoadKit.slotOf Z "com/example/reachability/reachability/CandidateList" "search" "I" := slot_ne (Or.inr (hw _ (List.mem_of_getElem? (i := 36) rfl))) (Or.inl (hw _ (List.mem_of_getElem? (i := 15) rfl))) (by decide) (t := .int) (t' := .int) (by decide) (by decide)
theorem own_sn107 {Z : State} {a0 : Array Value} (hw : ∀ d ∈ tables_1, d.before a0 Z = true) : Jvm.RoadKit.slotOf Z "com/example/reachability/reachability/CandidateList" "bucketStart" "[I" ≠ Jvm.RoadKit.slotOf Z "com/example/reachability/reachability/CandidateList" "search" "I" := slot_ne (Or.inr (hw _ (List.mem_of_getElem? (i := 41) rfl))) (Or.inl (hw _ (List.mem_of_getElem? (i := 15) rfl))) (by decide) (t := (.array .int)) (t' := .int) (by decide) (by decide)
theorem own_sn108 {Z : State} {a0 : Array Value} (hw : ∀ d ∈ tables_1, d.before a0 Z = true) : Jvm.RoadKit.slotOf Z "com/example/reachability/reachability/CandidateList" "foundCount" "I" ≠ Jvm.RoadKit.slotOf Z "com/example/reachability/reachability/CandidateList" "search" "I" := slot_ne (Or.inl (hw _ (List.mem_of_getElem? (i := 56) rfl))) (Or.inl (hw _ (List.mem_of_getElem? (i := 15) rfl))) (by decide) (t := .int) (t' := .int) (by decide) (by decide)
theorem own_sn109 {Z : State} {a0 : Array Value} (hw : ∀ d ∈ tables_1, d.before a0 Z = true) : Jvm.RoadKit.slotOf Z "com/example/reachability/reachability/CandidateList" "firstOnly" "Z" ≠ Jvm.RoadKit.slotOf Z "com/example/reachability/reachability/CandidateList" "search" "I" := slot_ne (Or.inl (hw _ (List.mem_of_getElem? (i := 48) rfl))) (Or.inl (hw _ (List.mem_of_getElem? (i := 15) rfl))) (by decide) (t := .boolean) (t' := .int) (by decide) (by decide)
theorem own_sn110 {Z : State} {a0 : Array Value} (hw : ∀ d ∈ tables_1, d.before a0 Z = true) : Jvm.RoadKit.slotOf Z "com/example/reachability/reachability/CandidateList" "forRuns" "Z" ≠ Jvm.RoadKit.slotOf Z "com/example/reachability/reachability/CandidateList" "search" "I" := slot_ne (Or.inl (hw _ (List.mem_of_getElem? (i := 58) rfl))) (Or.inl (hw _ (List.mem_of_getElem? (i := 15) rfl))) (by decide) (t := .boolean) (t' := .int) (by decide) (by decide)
theorem own_sn111 {Z : State} {a0 : Array Value} (hw : ∀ d ∈ tables_1, d.before a0 Z = true) : Jvm.RoadKit.slotOf Z "com/example/reachability/reachability/CandidateList" "runsLength" "I" ≠ Jvm.RoadKit.slotOf Z "com/example/reachability/reachability/CandidateList" "search" "I" := slot_ne (Or.inl (hw _ (List.mem_of_getElem? (i := 60) rfl))) (Or.inl (hw _ (List.mem_of_getElem? (i := 15) rfl))) (by decide) (t := .int) (t' := .int) (by decide) (by decide)
theorem own_sn112 {Z : State} {a0 : Array Value} (hw : ∀ d ∈ tables_1, d.before a0 Z = true) : Jvm.RoadKit.slotOf Z "com/example/reachability/reachability/CandidateList" "search" "I" ≠ Jvm.RoadKit.slotOf Z "com/example/reachability/reachability/CandidateList" "runs" "[I" := slot_ne (Or.inl (hw _ (List.mem_of_getElem? (i := 15) rfl))) (Or.inl (hw _ (List.mem_of_getElem? (i := 17) rfl))) (by decide) (t := .int) (t' := (.array .int)) (by decide) (by decide)
theorem own_sn113 {Z : State} {a0 : Array Value} (hw : ∀ d ∈ tables_1, d.before a0 Z = true) : Jvm.RoadKit.slotOf Z "com/example/reachability/reachability/CandidateList" "numbers" "[I" ≠ Jvm.RoadKit.slotOf Z "com/example/reachability/reachability/CandidateList" "runs" "[I" := slot_ne (Or.inr (hw _ (List.mem_of_getElem? (i := 19) rfl))) (Or.inl (hw _ (List.mem_of_getElem? (i := 17) rfl))) (by decide) (t := (.array .int)) (t' := (.array .int)) (by decide) (by decide)
theorem own_sn114 {Z : State} {a0 : Array Value} (hw : ∀ d ∈ tables_1, d.before a0 Z = true) : Jvm.RoadKit.slotOf Z "com/example/reachability/reachability/CandidateList" "elements" "[I" ≠ Jvm.RoadKit.slotOf Z "com/example/reachability/reachability/CandidateList" "runs" "[I" := slot_ne (Or.inr (hw _ (List.mem_of_getElem? (i := 21) rfl))) (Or.inl (hw _ (List.mem_of_getElem? (i := 17) rfl))) (by decide) (t := (.array .int)) (t' := (.array .int)) (by decide) (by decide)
theorem own_sn115 {Z : State} {a0 : Array Value} (hw : ∀ d ∈ tables_1, d.before a0 Z = true) : Jvm.RoadKit.slotOf Z "com/example/reachability/reachability/CandidateList" "foundIn" "[I" ≠ Jvm.RoadKit.slotOf Z "com/example/reachability/reachability/CandidateList" "runs" "[I" := slot_ne (Or.inr (hw _ (List.mem_of_getElem? (i := 23) rfl))) (Or.inl (hw _ (List.mem_of_getElem? (i := 17) rfl))) (by decide) (t := (.array .int)) (t' := (.array .int)) (by decide) (by decide)
theorem own_sn116 {Z : State} {a0 : Array Value} (hw : ∀ d ∈ tables_1, d.before a0 Z = true) : Jvm.RoadKit.slotOf Z "com/example/reachability/reachability/CandidateList" "next" "[I" ≠ Jvm.RoadKit.slotOf Z "com/example/reachability/reachability/CandidateList" "runs" "[I" := slot_ne (Or.inr (hw _ (List.mem_of_getElem? (i := 25) rfl))) (Or.inl (hw _ (List.mem_of_getElem? (i := 17) rfl))) (by decide) (t := (.array .int)) (t' := (.array .int)) (by decide) (by decide)
theorem own_sn117 {Z : State} {a0 : Array Value} (hw : ∀ d ∈ tables_1, d.before a0 Z = true) : Jvm.RoadKit.slotOf Z "com/example/reachability/reachability/CandidateList" "found" "[I" ≠ Jvm.RoadKit.slotOf Z "com/example/reachability/reachability/CandidateList" "runs" "[I" := slot_ne (Or.inr (hw _ (List.mem_of_getElem? (i := 27) rfl))) (Or.inl (hw _ (List.mem_of_getElem? (i := 17) rfl))) (by decide) (t := (.array .int)) (t' := (.array .int)) (by decide) (by decide)
theorem own_sn118 {Z : State} {a0 : Array Value} (hw : ∀ d ∈ tables_1, d.before a0 Z = true) : Jvm.RoadKit.slotOf Z "com/example/reachability/reachability/CandidateList" "bucketShift" "I" ≠ Jvm.RoadKit.slotOf Z "com/example/reachability/reachability/CandidateList" "runs" "[I" := slot_ne (Or.inr (hw _ (List.mem_of_getElem? (i := 36) rfl))) (Or.inl (hw _ (List.mem_of_getElem? (i := 17) rfl))) (by decide) (t := .int) (t' := (.array .int)) (by decide) (by decide)
theorem own_sn119 {Z : State} {a0 : Array Value} (hw : ∀ d ∈ tables_1, d.before a0 Z = true) : Jvm.RoadKit.slotOf Z "com/example/reachability/reachability/CandidateList" "bucketStart" "[I" ≠ Jvm.RoadKit.slotOf Z "com/example/reachability/reachability/CandidateList" "runs" "[I" := slot_ne (Or.inr (hw _ (List.mem_of_getElem? (i := 41) rfl))) (Or.inl (hw _ (List.mem_of_getElem? (i := 17) rfl))) (by decide) (t := (.array .int)) (t' := (.array .int)) (by decide) (by decide)
theorem own_sn120 {Z : State} {a0 : Array Value} (hw : ∀ d ∈ tables_1, d.before a0 Z = true) : Jvm.RoadKit.slotOf Z "com/example/reachability/reachability/CandidateList" "foundCount" "I" ≠ Jvm.RoadKit.slotOf Z "com/example/reachability/reachability/CandidateList" "runs" "[I" := slot_ne (Or.inl (hw _ (List.mem_of_getElem? (i := 56) rfl))) (Or.inl (hw _ (List.mem_of_getElem? (i := 17) rfl))) (by decide) (t := .int) (t' := (.array .int)) (by decide) (by decide)
theorem own_sn121 {Z : State} {a0 : Array Value} (hw : ∀ d ∈ tables_1, d.before a0 Z = true) : Jvm.RoadKit.slotOf Z "com/example/reachability/reachability/CandidateList" "firstOnly" "Z" ≠ Jvm.RoadKit.slotOf Z "com/example/reachability/reachability/CandidateList" "runs" "[I" := slot_ne (Or.inl (hw _ (List.mem_of_getElem? (i := 48) rfl))) (Or.inl (hw _ (List.mem_of_getElem? (i := 17) rfl))) (by decide) (t := .boolean) (t' := (.array .int)) (by decide) (by decide)
theorem own_sn122 {Z : State} {a0 : Array Value} (hw : ∀ d ∈ tables_1, d.before a0 Z = true) : Jvm.RoadKit.slotOf Z "com/example/reachability/reachability/CandidateList" "forRuns" "Z" ≠ Jvm.RoadKit.slotOf Z "com/example/reachability/reachability/CandidateList" "runs" "[I" := slot_ne (Or.inl (hw _ (List.mem_of_getElem? (i := 58) rfl))) (Or.inl (hw _ (List.mem_of_getElem? (i := 17) rfl))) (by decide) (t := .boolean) (t' := (.array .int)) (by decide) (by decide)
theorem own_sn123 {Z : State} {a0 : Array Value} (hw : ∀ d ∈ tables_1, d.before a0 Z = true) : Jvm.RoadKit.slotOf Z "com/example/reachability/reachability/CandidateList" "runsLength" "I" ≠ Jvm.RoadKit.slotOf Z "com/example/reachability/reachability/CandidateList" "runs" "[I" := slot_ne (Or.inl (hw _ (List.mem_of_getElem? (i := 60) rfl))) (Or.inl (hw _ (List.mem_of_getElem? (i := 17) rfl))) (by decide) (t := .int) (t' := (.array .int)) (by decide) (by decide)
theorem own_sn124 {Z : State} {a0 : Array Value} (hw : ∀ d ∈ tables_1, d.before a0 Z = true) : Jvm.RoadKit.slotOf Z "com/example/reachability/reachability/CandidateList" "search" "I" ≠ Jvm.RoadKit.slotOf Z "com/example/reachability/reachability/CandidateList" "numbers" "[I" := slot_ne (Or.inl (hw _ (List.mem_of_getElem? (i := 15) rfl))) (Or.inr (hw _ (List.mem_of_getElem? (i := 19) rfl))) (by decide) (t := .int) (t' := (.array .int)) (by decide) (by decide)
theorem own_sn125 {Z : State} {a0 : Array Value} (hw : ∀ d ∈ tables_1, d.before a0 Z = true) : Jvm.RoadKit.slotOf Z "com/example/reachability/reachability/CandidateList" "runs" "[I" ≠ Jvm.RoadKit.slotOf Z "com/example/reachability/reachability/CandidateList" "numbers" "[I" := slot_ne (Or.inl (hw _ (List.mem_of_getElem? (i := 17) rfl))) (Or.inr (hw _ (List.mem_of_getElem? (i := 19) rfl))) (by decide) (t := (.array .int)) (t' := (.array .int)) (by decide) (by decide)
theorem own_sn126 {Z : State} {a0 : Array Value} (hw : ∀ d ∈ tables_1, d.before a0 Z = true) : Jvm.RoadKit.slotOf Z "com/example/reachability/reachability/CandidateList" "elements" "[I" ≠ Jvm.RoadKit.slotOf Z "com/example/reachability/reachability/CandidateList" "numbers" "[I" := slot_ne (Or.inr (hw _ (List.mem_of_getElem? (i := 21) rfl))) (Or.inr (hw _ (List.mem_of_getElem? (i := 19) rfl))) (by decide) (t := (.array .int)) (t' := (.array .int)) (by decide) (by decide)
theorem own_sn127 {Z : State} {a0 : Array Value} (hw : ∀ d ∈ tables_1, d.before a0 Z = true) : Jvm.RoadKit.slotOf Z "com/example/reachability/reachability/CandidateList" "foundIn" "[I" ≠ Jvm.RoadKit.slotOf Z "com/example/reachability/reachability/CandidateList" "numbers" "[I" := slot_ne (Or.inr (hw _ (List.mem_of_getElem? (i := 23) rfl))) (Or.inr (hw _ (List.mem_of_getElem? (i := 19) rfl))) (by decide) (t := (.array .int)) (t' := (.array .int)) (by decide) (by decide)
theorem own_sn128 {Z : State} {a0 : Array Value} (hw : ∀ d ∈ tables_1, d.before a0 Z = true) : Jvm.RoadKit.slotOf Z "com/example/reachability/reachability/CandidateList" "next" "[I" ≠ Jvm.RoadKit.slotOf Z "com/example/reachability/reachability/CandidateList" "numbers" "[I" := slot_ne (Or.inr (hw _ (List.mem_of_getElem? (i := 25) rfl))) (Or.inr (hw _ (List.mem_of_getElem? (i := 19) rfl))) (by decide) (t := (.array .int)) (t' := (.array .int)) (by decide) (by decide)
theorem own_sn129 {Z : State} {a0 : Array Value} (hw : ∀ d ∈ tables_1, d.before a0 Z = true) : Jvm.RoadKit.slotOf Z "com/example/reachability/reachability/CandidateList" "found" "[I" ≠ Jvm.RoadKit.slotOf Z "com/example/reachability/reachability/CandidateList" "numbers" "[I" := slot_ne (Or.inr (hw _ (List.mem_of_getElem? (i := 27) rfl))) (Or.inr (hw _ (List.mem_of_getElem? (i := 19) rfl))) (by decide) (t := (.array .int)) (t' := (.array .int)) (by decide) (by decide)
theorem own_sn130 {Z : State} {a0 : Array Value} (hw : ∀ d ∈ tables_1, d.before a0 Z = true) : Jvm.RoadKit.slotOf Z "com/example/reachability/reachability/CandidateList" "bucketShift" "I" ≠ Jvm.RoadKit.slotOf Z "com/example/reachability/reachability/CandidateList" "numbers" "[I" := slot_ne (Or.inr (hw _ (List.mem_of_getElem? (i := 36) rfl))) (Or.inr (hw _ (List.mem_of_getElem? (i := 19) rfl))) (by decide) (t := .int) (t' := (.array .int)) (by decide) (by decide)
theorem own_sn131 {Z : State} {a0 : Array Value} (hw : ∀ d ∈ tables_1, d.before a0 Z = true) : Jvm.RoadKit.slotOf Z "com/example/reachability/reachability/CandidateList" "bucketStart" "[I" ≠ Jvm.RoadKit.slotOf Z "com/example/reachability/reachability/CandidateList" "numbers" "[I" := slot_ne (Or.inr (hw _ (List.mem_of_getElem? (i := 41) rfl))) (Or.inr (hw _ (List.mem_of_getElem? (i := 19) rfl))) (by decide) (t := (.array .int)) (t' := (.array .int)) (by decide) (by decide)
theorem own_sn132 {Z : State} {a0 : Array Value} (hw : ∀ d ∈ tables_1, d.before a0 Z = true) : Jvm.RoadKit.slotOf Z "com/example/reachability/reachability/CandidateList" "foundCount" "I" ≠ Jvm.RoadKit.slotOf Z "com/example/reachability/reachability/CandidateList" "numbers" "[I" := slot_ne (Or.inl (hw _ (List.mem_of_getElem? (i := 56) rfl))) (Or.inr (hw _ (List.mem_of_getElem? (i := 19) rfl))) (by decide) (t := .int) (t' := (.array .int)) (by decide) (by decide)
theorem own_sn133 {Z : State} {a0 : Array Value} (hw : ∀ d ∈ tables_1, d.before a0 Z = true) : Jvm.RoadKit.slotOf Z "com/example/reachability/reachability/CandidateList" "firstOnly" "Z" ≠ Jvm.RoadKit.slotOf Z "com/example/reachability/reachability/CandidateList" "numbers" "[I" := slot_ne (Or.inl (hw _ (List.mem_of_getElem? (i := 48) rfl))) (Or.inr (hw _ (List.mem_of_getElem? (i := 19) rfl))) (by decide) (t := .boolean) (t' := (.array .int)) (by decide) (by decide)
theorem own_sn134 {Z : State} {a0 : Array Value} (hw : ∀ d ∈ tables_1, d.before a0 Z = true) : Jvm.RoadKit.slotOf Z "com/example/reachability/reachability/CandidateList" "forRuns" "Z" ≠ Jvm.RoadKit.slotOf Z "com/example/reachability/reachability/CandidateList" "numbers" "[I" := slot_ne (Or.inl (hw _ (List.mem_of_getElem? (i := 58) rfl))) (Or.inr (hw _ (List.mem_of_getElem? (i := 19) rfl))) (by decide) (t := .boolean) (t' := (.array .int)) (by decide) (by decide)
theorem own_sn135 {Z : State} {a0 : Array Value} (hw : ∀ d ∈ tables_1, d.before a0 Z = true) : Jvm.RoadKit.slotOf Z "com/example/reachability/reachability/CandidateList" "runsLength" "I" ≠ Jvm.RoadKit.slotOf Z "com/example/reachability/reachability/CandidateList" "numbers" "[I" := slot_ne (Or.inl (hw _ (List.mem_of_getElem? (i := 60) rfl))) (Or.inr (hw _ (List.mem_of_getElem? (i := 19) rfl))) (by decide) (t := .int) (t' := (.array .int)) (by decide) (by decide)
theorem own_sn136 {Z : State} {a0 : Array Value} (hw : ∀ d ∈ tables_1, d.before a0 Z = true) : Jvm.RoadKit.slotOf Z "com/example/reachability/reachability/CandidateList" "search" "I" ≠ Jvm.RoadKit.slotOf Z "com/example/reachability/reachability/CandidateList" "elements" "[I" := slot_ne (Or.inl (hw _ (List.mem_of_getElem? (i := 15) rfl))) (Or.inr (hw _ (List.mem_of_getElem? (i := 21) rfl))) (by decide) (t := .int) (t' := (.array .int)) (by decide) (by decide)
theorem own_sn137 {Z : State} {a0 : Array Value} (hw : ∀ d ∈ tables_1, d.before a0 Z = true) : Jvm.RoadKit.slotOf Z "com/example/reachability/reachability/CandidateList" "runs" "[I" ≠ Jvm.RoadKit.slotOf Z "com/example/reachability/reachability/CandidateList" "elements" "[I" := slot_ne (Or.inl (hw _ (List.mem_of_getElem? (i := 17) rfl))) (Or.inr (hw _ (List.mem_of_getElem? (i := 21) rfl))) (by decide) (t := (.array .int)) (t' := (.array .int)) (by decide) (by decide)
theorem own_sn138 {Z : State} {a0 : Array Value} (hw : ∀ d ∈ tables_1, d.before a0 Z = true) : Jvm.RoadKit.slotOf Z "com/example/reachability/reachability/CandidateList" "numbers" "[I" ≠ Jvm.RoadKit.slotOf Z "com/example/reachability/reachability/CandidateList" "elements" "[I" := slot_ne (Or.inr (hw _ (List.mem_of_getElem? (i := 19) rfl))) (Or.inr (hw _ (List.mem_of_getElem? (i := 21) rfl))) (by decide) (t := (.array .int)) (t' := (.array .int)) (by decide) (by decide)
theorem own_sn139 {Z : State} {a0 : Array Value} (hw : ∀ d ∈ tables_1, d.before a0 Z = true) : Jvm.RoadKit.slotOf Z "com/example/reachability/reachability/CandidateList" "foundIn" "[I" ≠ Jvm.RoadKit.slotOf Z "com/example/reachability/reachability/CandidateList" "elements" "[I" := slot_ne (Or.inr (hw _ (List.mem_of_getElem? (i := 23) rfl))) (Or.inr (hw _ (List.mem_of_getElem? (i := 21) rfl))) (by decide) (t := (.array .int)) (t' := (.array .int)) (by decide) (by decide)
theorem own_sn140 {Z : State} {a0 : Array Value} (hw : ∀ d ∈ tables_1, d.before a0 Z = true) : Jvm.RoadKit.slotOf Z "com/example/reachability/reachability/CandidateList" "next" "[I" ≠ Jvm.RoadKit.slotOf Z "com/example/reachability/reachability/CandidateList" "elements" "[I" := slot_ne (Or.inr (hw _ (List.mem_of_getElem? (i := 25) rfl))) (Or.inr (hw _ (List.mem_of_getElem? (i := 21) rfl))) (by decide) (t := (.array .int)) (t' := (.array .int)) (by decide) (by decide)
theorem own_sn141 {Z : State} {a0 : Array Value} (hw : ∀ d ∈ tables_1, d.before a0 Z = true) : Jvm.RoadKit.slotOf Z "com/example/reachability/reachability/CandidateList" "found" "[I" ≠ Jvm.RoadKit.slotOf Z "com/example/reachability/reachability/CandidateList" "elements" "[I" := slot_ne (Or.inr (hw _ (List.mem_of_getElem? (i := 27) rfl))) (Or.inr (hw _ (List.mem_of_getElem? (i := 21) rfl))) (by decide) (t := (.array .int)) (t' := (.array .int)) (by decide) (by decide)
theorem own_sn142 {Z : State} {a0 : Array Value} (hw : ∀ d ∈ tables_1, d.before a0 Z = true) : Jvm.RoadKit.slotOf Z "com/example/reachability/reachability/CandidateList" "bucketShift" "I" ≠ Jvm.RoadKit.slotOf Z "com/example/reachability/reachability/CandidateList" "elements" "[I" := slot_ne (Or.inr (hw _ (List.mem_of_getElem? (i := 36) rfl))) (Or.inr (hw _ (List.mem_of_getElem? (i := 21) rfl))) (by decide) (t := .int) (t' := (.array .int)) (by decide) (by decide)
theorem own_sn143 {Z : State} {a0 : Array Value} (hw : ∀ d ∈ tables_1, d.before a0 Z = true) : Jvm.RoadKit.slotOf Z "com/example/reachability/reachability/CandidateList" "bucketStart" "[I" ≠ Jvm.RoadKit.slotOf Z "com/example/reachability/reachability/CandidateList" "elements" "[I" := slot_ne (Or.inr (hw _ (List.mem_of_getElem? (i := 41) rfl))) (Or.inr (hw _ (List.mem_of_getElem? (i := 21) rfl))) (by decide) (t := (.array .int)) (t' := (.array .int)) (by decide) (by decide)
theorem own_sn144 {Z : State} {a0 : Array Value} (hw : ∀ d ∈ tables_1, d.before a0 Z = true) : Jvm.RoadKit.slotOf Z "com/example/reachability/reachability/CandidateList" "foundCount" "I" ≠ Jvm.RoadKit.slotOf Z "com/example/reachability/reachability/CandidateList" "elements" "[I" := slot_ne (Or.inl (hw _ (List.mem_of_getElem? (i := 56) rfl))) (Or.inr (hw _ (List.mem_of_getElem? (i := 21) rfl))) (by decide) (t := .int) (t' := (.array .int)) (by decide) (by decide)
theorem own_sn145 {Z : State} {a0 : Array Value} (hw : ∀ d ∈ tables_1, d.before a0 Z = true) : Jvm.RoadKit.slotOf Z "com/example/reachability/reachability/CandidateList" "firstOnly" "Z" ≠ Jvm.RoadKit.slotOf Z "com/example/reachability/reachability/CandidateList" "elements" "[I" := slot_ne (Or.inl (hw _ (List.mem_of_getElem? (i := 48) rfl))) (Or.inr (hw _ (List.mem_of_getElem? (i := 21) rfl))) (by decide) (t := .boolean) (t' := (.array .int)) (by decide) (by decide)
theorem own_sn146 {Z : State} {a0 : Array Value} (hw : ∀ d ∈ tables_1, d.before a0 Z = true) : Jvm.RoadKit.slotOf Z "com/example/reachability/reachability/CandidateList" "forRuns" "Z" ≠ Jvm.RoadKit.slotOf Z "com/example/reachability/reachability/CandidateList" "elements" "[I" := slot_ne (Or.inl (hw _ (List.mem_of_getElem? (i := 58) rfl))) (Or.inr (hw _ (List.mem_of_getElem? (i := 21) rfl))) (by decide) (t := .boolean) (t' := (.array .int)) (by decide) (by decide)
theorem own_sn147 {Z : State} {a0 : Array Value} (hw : ∀ d ∈ tables_1, d.before a0 Z = true) : Jvm.RoadKit.slotOf Z "com/example/reachability/reachability/CandidateList" "runsLength" "I" ≠ Jvm.RoadKit.slotOf Z "com/example/reachability/reachability/CandidateList" "elements" "[I" := slot_ne (Or.inl (hw _ (List.mem_of_getElem? (i := 60) rfl))) (Or.inr (hw _ (List.mem_of_getElem? (i := 21) rfl))) (by decide) (t := .int) (t' := (.array .int)) (by decide) (by decide)
theorem own_sn148 {Z : State} {a0 : Array Value} (hw : ∀ d ∈ tables_1, d.before a0 Z = true) : Jvm.RoadKit.slotOf Z "com/example/reachability/reachability/CandidateList" "search" "I" ≠ Jvm.RoadKit.slotOf Z "com/example/reachability/reachability/CandidateList" "foundIn" "[I" := slot_ne (Or.inl (hw _ (List.mem_of_getElem? (i := 15) rfl))) (Or.inr (hw _ (List.mem_of_getElem? (i := 23) rfl))) (by decide) (t := .int) (t' := (.array .int)) (by decide) (by decide)
theorem own_sn149 {Z : State} {a0 : Array Value} (hw : ∀ d ∈ tables_1, d.before a0 Z = true) : Jvm.RoadKit.slotOf Z "com/example/reachability/reachability/CandidateList" "runs" "[I" ≠ Jvm.RoadKit.slotOf Z "com/example/reachability/reachability/CandidateList" "foundIn" "[I" := slot_ne (Or.inl (hw _ (List.mem_of_getElem? (i := 17) rfl))) (Or.inr (hw _ (List.mem_of_getElem? (i := 23) rfl))) (by decide) (t := (.array .int)) (t' := (.array .int)) (by decide) (by decide)
theorem own_sn150 {Z : State} {a0 : Array Value} (hw : ∀ d ∈ tables_1, d.before a0 Z = true) : Jvm.RoadKit.slotOf Z "com/example/reachability/reachability/CandidateList" "numbers" "[I" ≠ Jvm.RoadKit.slotOf Z "com/example/reachability/reachability/CandidateList" "foundIn" "[I" := slot_ne (Or.inr (hw _ (List.mem_of_getElem? (i := 19) rfl))) (Or.inr (hw _ (List.mem_of_getElem? (i := 23) rfl))) (by decide) (t := (.array .int)) (t' := (.array .int)) (by decide) (by decide)
theorem own_sn151 {Z : State} {a0 : Array Value} (hw : ∀ d ∈ tables_1, d.before a0 Z = true) : Jvm.RoadKit.slotOf Z "com/example/reachability/reachability/CandidateList" "elements" "[I" ≠ Jvm.RoadKit.slotOf Z "com/example/reachability/reachability/CandidateList" "foundIn" "[I" := slot_ne (Or.inr (hw _ (List.mem_of_getElem? (i := 21) rfl))) (Or.inr (hw _ (List.mem_of_getElem? (i := 23) rfl))) (by decide) (t := (.array .int)) (t' := (.array .int)) (by decide) (by decide)
theorem own_sn152 {Z : State} {a0 : Array Value} (hw : ∀ d ∈ tables_1, d.before a0 Z = true) : Jvm.RoadKit.slotOf Z "com/example/reachability/reachability/CandidateList" "next" "[I" ≠ Jvm.RoadKit.slotOf Z "com/example/reachability/reachability/CandidateList" "foundIn" "[I" := slot_ne (Or.inr (hw _ (List.mem_of_getElem? (i := 25) rfl))) (Or.inr (hw _ (List.mem_of_getElem? (i := 23) rfl))) (by decide) (t := (.array .int)) (t' := (.array .int)) (by decide) (by decide)
theorem own_sn153 {Z : State} {a0 : Array Value} (hw : ∀ d ∈ tables_1, d.before a0 Z = true) : Jvm.RoadKit.slotOf Z "com/example/reachability/reachability/CandidateList" "found" "[I" ≠ Jvm.RoadKit.slotOf Z "com/example/reachability/reachability/CandidateList" "foundIn" "[I" := slot_ne (Or.inr (hw _ (List.mem_of_getElem? (i := 27) rfl))) (Or.inr (hw _ (List.mem_of_getElem? (i := 23) rfl))) (by decide) (t := (.array .int)) (t' := (.array .int)) (by decide) (by decide)
theorem own_sn154 {Z : State} {a0 : Array Value} (hw : ∀ d ∈ tables_1, d.before a0 Z = true) : Jvm.RoadKit.slotOf Z "com/example/reachability/reachability/CandidateList" "bucketShift" "I" ≠ Jvm.RoadKit.slotOf Z "com/example/reachability/reachability/CandidateList" "foundIn" "[I" := slot_ne (Or.inr (hw _ (List.mem_of_getElem? (i := 36) rfl))) (Or.inr (hw _ (List.mem_of_getElem? (i := 23) rfl))) (by decide) (t := .int) (t' := (.array .int)) (by decide) (by decide)
theorem own_sn155 {Z : State} {a0 : Array Value} (hw : ∀ d ∈ tables_1, d.before a0 Z = true) : Jvm.RoadKit.slotOf Z "com/example/reachability/reachability/CandidateList" "bucketStart" "[I" ≠ Jvm.RoadKit.slotOf Z "com/example/reachability/reachability/CandidateList" "foundIn" "[I" := slot_ne (Or.inr (hw _ (List.mem_of_getElem? (i := 41) rfl))) (Or.inr (hw _ (List.mem_of_getElem? (i := 23) rfl))) (by decide) (t := (.array .int)) (t' := (.array .int)) (by decide) (by decide)
theorem own_sn156 {Z : State} {a0 : Array Value} (hw : ∀ d ∈ tables_1, d.before a0 Z = true) : Jvm.RoadKit.slotOf Z "com/example/reachability/reachability/CandidateList" "foundCount" "I" ≠ Jvm.RoadKit.slotOf Z "com/example/reachability/reachability/CandidateList" "foundIn" "[I" := slot_ne (Or.inl (hw _ (List.mem_of_getElem? (i := 56) rfl))) (Or.inr (hw _ (List.mem_of_getElem? (i := 23) rfl))) (by decide) (t := .int) (t' := (.array .int)) (by decide) (by decide)
theorem own_sn157 {Z : State} {a0 : Array Value} (hw : ∀ d ∈ tables_1, d.before a0 Z = true) : Jvm.RoadKit.slotOf Z "com/example/reachability/reachability/CandidateList" "firstOnly" "Z" ≠ Jvm.RoadKit.slotOf Z "com/example/reachability/reachability/CandidateList" "foundIn" "[I" := slot_ne (Or.inl (hw _ (List.mem_of_getElem? (i := 48) rfl))) (Or.inr (hw _ (List.mem_of_getElem? (i := 23) rfl))) (by decide) (t := .boolean) (t' := (.array .int)) (by decide) (by decide)
theorem own_sn158 {Z : State} {a0 : Array Value} (hw : ∀ d ∈ tables_1, d.before a0 Z = true) : Jvm.RoadKit.slotOf Z "com/example/reachability/reachability/CandidateList" "forRuns" "Z" ≠ Jvm.RoadKit.slotOf Z "com/example/reachability/reachability/CandidateList" "foundIn" "[I" := slot_ne (Or.inl (hw _ (List.mem_of_getElem? (i := 58) rfl))) (Or.inr (hw _ (List.mem_of_getElem? (i := 23) rfl))) (by decide) (t := .boolean) (t' := (.array .int)) (by decide) (by decide)
theorem own_sn159 {Z : State} {a0 : Array Value} (hw : ∀ d ∈ tables_1, d.before a0 Z = true) : Jvm.RoadKit.slotOf Z "com/example/reachability/reachability/CandidateList" "runsLength" "I" ≠ Jvm.RoadKit.slotOf Z "com/example/reachability/reachability/CandidateList" "foundIn" "[I" := slot_ne (Or.inl (hw _ (List.mem_of_getElem? (i := 60) rfl))) (Or.inr (hw _ (List.mem_of_getElem? (i := 23) rfl))) (by decide) (t := .int) (t' := (.array .int)) (by decide) (by decide)
theorem own_sn160 {Z : State} {a0 : Array Value} (hw : ∀ d ∈ tables_1, d.before a0 Z = true) : Jvm.RoadKit.slotOf Z "com/example/reachability/reachability/CandidateList" "search" "I" ≠ Jvm.RoadKit.slotOf Z "com/example/reachability/reachability/CandidateList" "next" "[I" := slot_ne (Or.inl (hw _ (List.mem_of_getElem? (i := 15) rfl))) (Or.inr (hw _ (List.mem_of_getElem? (i := 25) rfl))) (by decide) (t := .int) (t' := (.array .int)) (by decide) (by decide)
theorem own_sn161 {Z : State} {a0 : Array Value} (hw : ∀ d ∈ tables_1, d.before a0 Z = true) : Jvm.RoadKit.slotOf Z "com/example/reachability/reachability/CandidateList" "runs" "[I" ≠ Jvm.RoadKit.slotOf Z "com/example/reachability/reachability/CandidateList" "next" "[I" := slot_ne (Or.inl (hw _ (List.mem_of_getElem? (i := 17) rfl))) (Or.inr (hw _ (List.mem_of_getElem? (i := 25) rfl))) (by decide) (t := (.array .int)) (t' := (.array .int)) (by decide) (by decide)
theorem own_sn162 {Z : State} {a0 : Array Value} (hw : ∀ d ∈ tables_1, d.before a0 Z = true) : Jvm.RoadKit.slotOf Z "com/example/reachability/reachability/CandidateList" "numbers" "[I" ≠ Jvm.RoadKit.slotOf Z "com/example/reachability/reachability/CandidateList" "next" "[I" := slot_ne (Or.inr (hw _ (List.mem_of_getElem? (i := 19) rfl))) (Or.inr (hw _ (List.mem_of_getElem? (i := 25) rfl))) (by decide) (t := (.array .int)) (t' := (.array .int)) (by decide) (by decide)
theorem own_sn163 {Z : State} {a0 : Array Value} (hw : ∀ d ∈ tables_1, d.before a0 Z = true) : Jvm.RoadKit.slotOf Z "com/example/reachability/reachability/CandidateList" "elements" "[I" ≠ Jvm.RoadKit.slotOf Z "com/example/reachability/reachability/CandidateList" "next" "[I" := slot_ne (Or.inr (hw _ (List.mem_of_getElem? (i := 21) rfl))) (Or.inr (hw _ (List.mem_of_getElem? (i := 25) rfl))) (by decide) (t := (.array .int)) (t' := (.array .int)) (by decide) (by decide)
theorem own_sn164 {Z : State} {a0 : Array Value} (hw : ∀ d ∈ tables_1, d.before a0 Z = true) : Jvm.RoadKit.slotOf Z "com/example/reachability/reachability/CandidateList" "foundIn" "[I" ≠ Jvm.RoadKit.slotOf Z "com/example/reachability/reachability/CandidateList" "next" "[I" := slot_ne (Or.inr (hw _ (List.mem_of_getElem? (i := 23) rfl))) (Or.inr (hw _ (List.mem_of_getElem? (i := 25) rfl))) (by decide) (t := (.array .int)) (t' := (.array .int)) (by decide) (by decide)
theorem own_sn165 {Z : State} {a0 : Array Value} (hw : ∀ d ∈ tables_1, d.before a0 Z = true) : Jvm.RoadKit.slotOf Z "com/example/reachability/reachability/CandidateList" "found" "[I" ≠ Jvm.RoadKit.slotOf Z "com/example/reachability/reachability/CandidateList" "next" "[I" := slot_ne (Or.inr (hw _ (List.mem_of_getElem? (i := 27) rfl))) (Or.inr (hw _ (List.mem_of_getElem? (i := 25) rfl))) (by decide) (t := (.array .int)) (t' := (.array .int)) (by decide) (by decide)
theorem own_sn166 {Z : State} {a0 : Array Value} (hw : ∀ d ∈ tables_1, d.before a0 Z = true) : Jvm.RoadKit.slotOf Z "com/example/reachability/reachability/CandidateList" "bucketShift" "I" ≠ Jvm.RoadKit.slotOf Z "com/example/reachability/reachability/CandidateList" "next" "[I" := slot_ne (Or.inr (hw _ (List.mem_of_getElem? (i := 36) rfl))) (Or.inr (hw _ (List.mem_of_getElem? (i := 25) rfl))) (by decide) (t := .int) (t' := (.array .int)) (by decide) (by decide)
theorem own_sn167 {Z : State} {a0 : Array Value} (hw : ∀ d ∈ tables_1, d.before a0 Z = true) : Jvm.RoadKit.slotOf Z "com/example/reachability/reachability/CandidateList" "bucketStart" "[I" ≠ Jvm.RoadKit.slotOf Z "com/example/reachability/reachability/CandidateList" "next" "[I" := slot_ne (Or.inr (hw _ (List.mem_of_getElem? (i := 41) rfl))) (Or.inr (hw _ (List.mem_of_getElem? (i := 25) rfl))) (by decide) (t := (.array .int)) (t' := (.array .int)) (by decide) (by decide)
theorem own_sn168 {Z : State} {a0 : Array Value} (hw : ∀ d ∈ tables_1, d.before a0 Z = true) : Jvm.RoadKit.slotOf Z "com/example/reachability/reachability/CandidateList" "foundCount" "I" ≠ Jvm.RoadKit.slotOf Z "com/example/reachability/reachability/CandidateList" "next" "[I" := slot_ne (Or.inl (hw _ (List.mem_of_getElem? (i := 56) rfl))) (Or.inr (hw _ (List.mem_of_getElem? (i := 25) rfl))) (by decide) (t := .int) (t' := (.array .int)) (by decide) (by decide)
theorem own_sn169 {Z : State} {a0 : Array Value} (hw : ∀ d ∈ tables_1, d.before a0 Z = true) : Jvm.RoadKit.slotOf Z "com/example/reachability/reachability/CandidateList" "firstOnly" "Z" ≠ Jvm.RoadKit.slotOf Z "com/example/reachability/reachability/CandidateList" "next" "[I" := slot_ne (Or.inl (hw _ (List.mem_of_getElem? (i := 48) rfl))) (Or.inr (hw _ (List.mem_of_getElem? (i := 25) rfl))) (by decide) (t := .boolean) (t' := (.array .int)) (by decide) (by decide)
theorem own_sn170 {Z : State} {a0 : Array Value} (hw : ∀ d ∈ tables_1, d.before a0 Z = true) : Jvm.RoadKit.slotOf Z "com/example/reachability/reachability/CandidateList" "forRuns" "Z" ≠ Jvm.RoadKit.slotOf Z "com/example/reachability/reachability/CandidateList" "next" "[I" := slot_ne (Or.inl (hw _ (List.mem_of_getElem? (i := 58) rfl))) (Or.inr (hw _ (List.mem_of_getElem? (i := 25) rfl))) (by decide) (t := .boolean) (t' := (.array .int)) (by decide) (by decide)
theorem own_sn171 {Z : State} {a0 : Array Value} (hw : ∀ d ∈ tables_1, d.before a0 Z = true) : Jvm.RoadKit.slotOf Z "com/example/reachability/reachability/CandidateList" "runsLength" "I" ≠ Jvm.RoadKit.slotOf Z "com/example/reachability/reachability/CandidateList" "next" "[I" := slot_ne (Or.inl (hw _ (List.mem_of_getElem? (i := 60) rfl))) (Or.inr (hw _ (List.mem_of_getElem? (i := 25) rfl))) (by decide) (t := .int) (t' := (.array .int)) (by decide) (by decide)
theorem own_sn172 {Z : State} {a0 : Array Value} (hw : ∀ d ∈ tables_1, d.before a0 Z = true) : Jvm.RoadKit.slotOf Z "com/example/reachability/reachability/CandidateList" "search" "I" ≠ Jvm.RoadKit.slotOf Z "com/example/reachability/reachability/CandidateList" "found" "[I" := slot_ne (Or.inl (hw _ (List.mem_of_getElem? (i := 15) rfl))) (Or.inr (hw _ (List.mem_of_getElem? (i := 27) rfl))) (by decide) (t := .int) (t' := (.array .int)) (by decide) (by decide)
theorem own_sn173 {Z : State} {a0 : Array Value} (hw : ∀ d ∈ tables_1, d.before a0 Z = true) : Jvm.RoadKit.slotOf Z "com/example/reachability/reachability/CandidateList" "runs" "[I" ≠ Jvm.RoadKit.slotOf Z "com/example/reachability/reachability/CandidateList" "found" "[I" := slot_ne (Or.inl (hw _ (List.mem_of_getElem? (i := 17) rfl))) (Or.inr (hw _ (List.mem_of_getElem? (i := 27) rfl))) (by decide) (t := (.array .int)) (t' := (.array .int)) (by decide) (by decide)
theorem own_sn174 {Z : State} {a0 : Array Value} (hw : ∀ d ∈ tables_1, d.before a0 Z = true) : Jvm.RoadKit.slotOf Z "com/example/reachability/reachability/CandidateList" "numbers" "[I" ≠ Jvm.RoadKit.slotOf Z "com/example/reachability/reachability/CandidateList" "found" "[I" := slot_ne (Or.inr (hw _ (List.mem_of_getElem? (i := 19) rfl))) (Or.inr (hw _ (List.mem_of_getElem? (i := 27) rfl))) (by decide) (t := (.array .int)) (t' := (.array .int)) (by decide) (by decide)
theorem own_sn175 {Z : State} {a0 : Array Value} (hw : ∀ d ∈ tables_1, d.before a0 Z = true) : Jvm.RoadKit.slotOf Z "com/example/reachability/reachability/CandidateList" "elements" "[I" ≠ Jvm.RoadKit.slotOf Z "com/example/reachability/reachability/CandidateList" "found" "[I" := slot_ne (Or.inr (hw _ (List.mem_of_getElem? (i := 21) rfl))) (Or.inr (hw _ (List.mem_of_getElem? (i := 27) rfl))) (by decide) (t := (.array .int)) (t' := (.array .int)) (by decide) (by decide)
theorem own_sn176 {Z : State} {a0 : Array Value} (hw : ∀ d ∈ tables_1, d.before a0 Z = true) : Jvm.RoadKit.slotOf Z "com/example/reachability/reachability/CandidateList" "foundIn" "[I" ≠ Jvm.RoadKit.slotOf Z "com/example/reachability/reachability/CandidateList" "found" "[I" := slot_ne (Or.inr (hw _ (List.mem_of_getElem? (i := 23) rfl))) (Or.inr (hw _ (List.mem_of_getElem? (i := 27) rfl))) (by decide) (t := (.array .int)) (t' := (.array .int)) (by decide) (by decide)
theorem own_sn177 {Z : State} {a0 : Array Value} (hw : ∀ d ∈ tables_1, d.before a0 Z = true) : Jvm.RoadKit.slotOf Z "com/example/reachability/reachability/CandidateList" "next" "[I" ≠ Jvm.RoadKit.slotOf Z "com/example/reachability/reachability/CandidateList" "found" "[I" := slot_ne (Or.inr (hw _ (List.mem_of_getElem? (i := 25) rfl))) (Or.inr (hw _ (List.mem_of_getElem? (i := 27) rfl))) (by decide) (t := (.array .int)) (t' := (.array .int)) (by decide) (by decide)
theorem own_sn178 {Z : State} {a0 : Array Value} (hw : ∀ d ∈ tables_1, d.before a0 Z = true) : Jvm.RoadKit.slotOf Z "com/example/reachability/reachability/CandidateList" "bucketShift" "I" ≠ Jvm.RoadKit.slotOf Z "com/example/reachability/reachability/CandidateList" "found" "[I" := slot_ne (Or.inr (hw _ (List.mem_of_getElem? (i := 36) rfl))) (Or.inr (hw _ (List.mem_of_getElem? (i := 27) rfl))) (by decide) (t := .int) (t' := (.array .int)) (by decide) (by decide)
theorem own_sn179 {Z : State} {a0 : Array Value} (hw : ∀ d ∈ tables_1, d.before a0 Z = true) : Jvm.RoadKit.slotOf Z "com/example/reachability/reachability/CandidateList" "bucketStart" "[I" ≠ Jvm.RoadKit.slotOf Z "com/example/reachability/reachability/CandidateList" "found" "[I" := slot_ne (Or.inr (hw _ (List.mem_of_getElem? (i := 41) rfl))) (Or.inr (hw _ (List.mem_of_getElem? (i := 27) rfl))) (by decide) (t := (.array .int)) (t' := (.array .int)) (by decide) (by decide)
theorem own_sn180 {Z : State} {a0 : Array Value} (hw : ∀ d ∈ tables_1, d.before a0 Z = true) : Jvm.RoadKit.slotOf Z "com/example/reachability/reachability/CandidateList" "foundCount" "I" ≠ Jvm.RoadKit.slotOf Z "com/example/reachability/reachability/CandidateList" "found" "[I" := slot_ne (Or.inl (hw _ (List.mem_of_getElem? (i := 56) rfl))) (Or.inr (hw _ (List.mem_of_getElem? (i := 27) rfl))) (by decide) (t := .int) (t' := (.array .int)) (by decide) (by decide)
theorem own_sn181 {Z : State} {a0 : Array Value} (hw : ∀ d ∈ tables_1, d.before a0 Z = true) : Jvm.RoadKit.slotOf Z "com/example/reachability/reachability/CandidateList" "firstOnly" "Z" ≠ Jvm.RoadKit.slotOf Z "com/example/reachability/reachability/CandidateList" "found" "[I" := slot_ne (Or.inl (hw _ (List.mem_of_getElem? (i := 48) rfl))) (Or.inr (hw _ (List.mem_of_getElem? (i := 27) rfl))) (by decide) (t := .boolean) (t' := (.array .int)) (by decide) (by decide)
theorem own_sn182 {Z : State} {a0 : Array Value} (hw : ∀ d ∈ tables_1, d.before a0 Z = true) : Jvm.RoadKit.slotOf Z "com/example/reachability/reachability/CandidateList" "forRuns" "Z" ≠ Jvm.RoadKit.slotOf Z "com/example/reachability/reachability/CandidateList" "found" "[I" := slot_ne (Or.inl (hw _ (List.mem_of_getElem? (i := 58) rfl))) (Or.inr (hw _ (List.mem_of_getElem? (i := 27) rfl))) (by decide) (t := .boolean) (t' := (.array .int)) (by decide) (by decide)
theorem own_sn183 {Z : State} {a0 : Array Value} (hw : ∀ d ∈ tables_1, d.before a0 Z = true) : Jvm.RoadKit.slotOf Z "com/example/reachability/reachability/CandidateList" "runsLength" "I" ≠ Jvm.RoadKit.slotOf Z "com/example/reachability/reachability/CandidateList" "found" "[I" := slot_ne (Or.inl (hw _ (List.mem_of_getElem? (i := 60) rfl))) (Or.inr (hw _ (List.mem_of_getElem? (i := 27) rfl))) (by decide) (t := .int) (t' := (.array .int)) (by decide) (by decide)
theorem own_pd184 : parseMethodDescriptor "([I)I" = some ⟨[(.array .int)], some .int⟩ := by decide +kernel
theorem own_sn185 {Z : State} {a0 : Array Value} (hw : ∀ d ∈ tables_1, d.before a0 Z = true) : Jvm.RoadKit.slotOf Z "com/example/reachability/reachability/CandidateList" "search" "I" ≠ Jvm.RoadKit.slotOf Z "com/example/reachability/reachability/CandidateList" "bucketShift" "I" := slot_ne (Or.inl (hw _ (List.mem_of_getElem? (i := 15) rfl))) (Or.inr (hw _ (List.mem_of_getElem? (i := 36) rfl))) (by decide) (t := .int) (t' := .int) (by decide) (by decide)
theorem own_sn186 {Z : State} {a0 : Array Value} (hw : ∀ d ∈ tables_1, d.before a0 Z = true) : Jvm.RoadKit.slotOf Z "com/example/reachability/reachability/CandidateList" "runs" "[I" ≠ Jvm.RoadKit.slotOf Z "com/example/reachability/reachability/CandidateList" "bucketShift" "I" := slot_ne (Or.inl (hw _ (List.mem_of_getElem? (i := 17) rfl))) (Or.inr (hw _ (List.mem_of_getElem? (i := 36) rfl))) (by decide) (t := (.array .int)) (t' := .int) (by decide) (by decide)
theorem own_sn187 {Z : State} {a0 : Array Value} (hw : ∀ d ∈ tables_1, d.before a0 Z = true) : Jvm.RoadKit.slotOf Z "com/example/reachability/reachability/CandidateList" "numbers" "[I" ≠ Jvm.RoadKit.slotOf Z "com/example/reachability/reachability/CandidateList" "bucketShift" "I" := slot_ne (Or.inr (hw _ (List.mem_of_getElem? (i := 19) rfl))) (Or.inr (hw _ (List.mem_of_getElem? (i := 36) rfl))) (by decide) (t := (.array .int)) (t' := .int) (by decide) (by decide)
theorem own_sn188 {Z : State} {a0 : Array Value} (hw : ∀ d ∈ tables_1, d.before a0 Z = true) : Jvm.RoadKit.slotOf Z "com/example/reachability/reachability/CandidateList" "elements" "[I" ≠ Jvm.RoadKit.slotOf Z "com/example/reachability/reachability/CandidateList" "bucketShift" "I" := slot_ne (Or.inr (hw _ (List.mem_of_getElem? (i := 21) rfl))) (Or.inr (hw _ (List.mem_of_getElem? (i := 36) rfl))) (by decide) (t := (.array .int)) (t' := .int) (by decide) (by decide)
theorem own_sn189 {Z : State} {a0 : Array Value} (hw : ∀ d ∈ tables_1, d.before a0 Z = true) : Jvm.RoadKit.slotOf Z "com/example/reachability/reachability/CandidateList" "foundIn" "[I" ≠ Jvm.RoadKit.slotOf Z "com/example/reachability/reachability/CandidateList" "bucketShift" "I" := slot_ne (Or.inr (hw _ (List.mem_of_getElem? (i := 23) rfl))) (Or.inr (hw _ (List.mem_of_getElem? (i := 36) rfl))) (by decide) (t := (.array .int)) (t' := .int) (by decide) (by decide)
theorem own_sn190 {Z : State} {a0 : Array Value} (hw : ∀ d ∈ tables_1, d.before a0 Z = true) : Jvm.RoadKit.slotOf Z "com/example/reachability/reachability/CandidateList" "next" "[I" ≠ Jvm.RoadKit.slotOf Z "com/example/reachability/reachability/CandidateList" "bucketShift" "I" := slot_ne (Or.inr (hw _ (List.mem_of_getElem? (i := 25) rfl))) (Or.inr (hw _ (List.mem_of_getElem? (i := 36) rfl))) (by decide) (t := (.array .int)) (t' := .int) (by decide) (by decide)
theorem own_sn191 {Z : State} {a0 : Array Value} (hw : ∀ d ∈ tables_1, d.before a0 Z = true) : Jvm.RoadKit.slotOf Z "com/example/reachability/reachability/CandidateList" "found" "[I" ≠ Jvm.RoadKit.slotOf Z "com/example/reachability/reachability/CandidateList" "bucketShift" "I" := slot_ne (Or.inr (hw _ (List.mem_of_getElem? (i := 27) rfl))) (Or.inr (hw _ (List.mem_of_getElem? (i := 36) rfl))) (by decide) (t := (.array .int)) (t' := .int) (by decide) (by decide)
theorem own_sn192 {Z : State} {a0 : Array Value} (hw : ∀ d ∈ tables_1, d.before a0 Z = true) : Jvm.RoadKit.slotOf Z "com/example/reachability/reachability/CandidateList" "bucketStart" "[I" ≠ Jvm.RoadKit.slotOf Z "com/example/reachability/reachability/CandidateList" "bucketShift" "I" := slot_ne (Or.inr (hw _ (List.mem_of_getElem? (i := 41) rfl))) (Or.inr (hw _ (List.mem_of_getElem? (i := 36) rfl))) (by decide) (t := (.array .int)) (t' := .int) (by decide) (by decide)
theorem own_sn193 {Z : State} {a0 : Array Value} (hw : ∀ d ∈ tables_1, d.before a0 Z = true) : Jvm.RoadKit.slotOf Z "com/example/reachability/reachability/CandidateList" "foundCount" "I" ≠ Jvm.RoadKit.slotOf Z "com/example/reachability/reachability/CandidateList" "bucketShift" "I" := slot_ne (Or.inl (hw _ (List.mem_of_getElem? (i := 56) rfl))) (Or.inr (hw _ (List.mem_of_getElem? (i := 36) rfl))) (by decide) (t := .int) (t' := .int) (by decide) (by decide)
theorem own_sn194 {Z : State} {a0 : Array Value} (hw : ∀ d ∈ tables_1, d.before a0 Z = true) : Jvm.RoadKit.slotOf Z "com/example/reachability/reachability/CandidateList" "firstOnly" "Z" ≠ Jvm.RoadKit.slotOf Z "com/example/reachability/reachability/CandidateList" "bucketShift" "I" := slot_ne (Or.inl (hw _ (List.mem_of_getElem? (i := 48) rfl))) (Or.inr (hw _ (List.mem_of_getElem? (i := 36) rfl))) (by decide) (t := .boolean) (t' := .int) (by decide) (by decide)
theorem own_sn195 {Z : State} {a0 : Array Value} (hw : ∀ d ∈ tables_1, d.before a0 Z = true) : Jvm.RoadKit.slotOf Z "com/example/reachability/reachability/CandidateList" "forRuns" "Z" ≠ Jvm.RoadKit.slotOf Z "com/example/reachability/reachability/CandidateList" "bucketShift" "I" := slot_ne (Or.inl (hw _ (List.mem_of_getElem? (i := 58) rfl))) (Or.inr (hw _ (List.mem_of_getElem? (i := 36) rfl))) (by decide) (t := .boolean) (t' := .int) (by decide) (by decide)
theorem own_sn196 {Z : State} {a0 : Array Value} (hw : ∀ d ∈ tables_1, d.before a0 Z = true) : Jvm.RoadKit.slotOf Z "com/example/reachability/reachability/CandidateList" "runsLength" "I" ≠ Jvm.RoadKit.slotOf Z "com/example/reachability/reachability/CandidateList" "bucketShift" "I" := slot_ne (Or.inl (hw _ (List.mem_of_getElem? (i := 60) rfl))) (Or.inr (hw _ (List.mem_of_getElem? (i := 36) rfl))) (by decide) (t := .int) (t' := .int) (by decide) (by decide)
theorem own_pd197 : parseMethodDescriptor "([II)[I" = some ⟨[(.array .int), .int], some (.array .int)⟩ := by decide +kernel
theorem own_sn198 {Z : State} {a0 : Array Value} (hw : ∀ d ∈ tables_1, d.before a0 Z = true) : Jvm.RoadKit.slotOf Z "com/example/reachability/reachability/CandidateList" "search" "I" ≠ Jvm.RoadKit.slotOf Z "com/example/reachability/reachability/CandidateList" "bucketStart" "[I" := slot_ne (Or.inl (hw _ (List.mem_of_getElem? (i := 15) rfl))) (Or.inr (hw _ (List.mem_of_getElem? (i := 41) rfl))) (by decide) (t := .int) (t' := (.array .int)) (by decide) (by decide)
theorem own_sn199 {Z : State} {a0 : Array Value} (hw : ∀ d ∈ tables_1, d.before a0 Z = true) : Jvm.RoadKit.slotOf Z "com/example/reachability/reachability/CandidateList" "runs" "[I" ≠ Jvm.RoadKit.slotOf Z "com/example/reachability/reachability/CandidateList" "bucketStart" "[I" := slot_ne (Or.inl (hw _ (List.mem_of_getElem? (i := 17) rfl))) (Or.inr (hw _ (List.mem_of_getElem? (i := 41) rfl))) (by decide) (t := (.array .int)) (t' := (.array .int)) (by decide) (by decide)
theorem own_sn200 {Z : State} {a0 : Array Value} (hw : ∀ d ∈ tables_1, d.before a0 Z = true) : Jvm.RoadKit.slotOf Z "com/example/reachability/reachability/CandidateList" "numbers" "[I" ≠ Jvm.RoadKit.slotOf Z "com/example/reachability/reachability/CandidateList" "bucketStart" "[I" := slot_ne (Or.inr (hw _ (List.mem_of_getElem? (i := 19) rfl))) (Or.inr (hw _ (List.mem_of_getElem? (i := 41) rfl))) (by decide) (t := (.array .int)) (t' := (.array .int)) (by decide) (by decide)
theorem own_sn201 {Z : State} {a0 : Array Value} (hw : ∀ d ∈ tables_1, d.before a0 Z = true) : Jvm.RoadKit.slotOf Z "com/example/reachability/reachability/CandidateList" "elements" "[I" ≠ Jvm.RoadKit.slotOf Z "com/example/reachability/reachability/CandidateList" "bucketStart" "[I" := slot_ne (Or.inr (hw _ (List.mem_of_getElem? (i := 21) rfl))) (Or.inr (hw _ (List.mem_of_getElem? (i := 41) rfl))) (by decide) (t := (.array .int)) (t' := (.array .int)) (by decide) (by decide)
theorem own_sn202 {Z : State} {a0 : Array Value} (hw : ∀ d ∈ tables_1, d.before a0 Z = true) : Jvm.RoadKit.slotOf Z "com/example/reachability/reachability/CandidateList" "foundIn" "[I" ≠ Jvm.RoadKit.slotOf Z "com/example/reachability/reachability/CandidateList" "bucketStart" "[I" := slot_ne (Or.inr (hw _ (List.mem_of_getElem? (i := 23) rfl))) (Or.inr (hw _ (List.mem_of_getElem? (i := 41) rfl))) (by decide) (t := (.array .int)) (t' := (.array .int)) (by decide) (by decide)
theorem own_sn203 {Z : State} {a0 : Array Value} (hw : ∀ d ∈ tables_1, d.before a0 Z = true) : Jvm.RoadKit.slotOf Z "com/example/reachability/reachability/CandidateList" "next" "[I" ≠ Jvm.RoadKit.slotOf Z "com/example/reachability/reachability/CandidateList" "bucketStart" "[I" := slot_ne (Or.inr (hw _ (List.mem_of_getElem? (i := 25) rfl))) (Or.inr (hw _ (List.mem_of_getElem? (i := 41) rfl))) (by decide) (t := (.array .int)) (t' := (.array .int)) (by decide) (by decide)
theorem own_sn204 {Z : State} {a0 : Array Value} (hw : ∀ d ∈ tables_1, d.before a0 Z = true) : Jvm.RoadKit.slotOf Z "com/example/reachability/reachability/CandidateList" "found" "[I" ≠ Jvm.RoadKit.slotOf Z "com/example/reachability/reachability/CandidateList" "bucketStart" "[I" := slot_ne (Or.inr (hw _ (List.mem_of_getElem? (i := 27) rfl))) (Or.inr (hw _ (List.mem_of_getElem? (i := 41) rfl))) (by decide) (t := (.array .int)) (t' := (.array .int)) (by decide) (by decide)
theorem own_sn205 {Z : State} {a0 : Array Value} (hw : ∀ d ∈ tables_1, d.before a0 Z = true) : Jvm.RoadKit.slotOf Z "com/example/reachability/reachability/CandidateList" "bucketShift" "I" ≠ Jvm.RoadKit.slotOf Z "com/example/reachability/reachability/CandidateList" "bucketStart" "[I" := slot_ne (Or.inr (hw _ (List.mem_of_getElem? (i := 36) rfl))) (Or.inr (hw _ (List.mem_of_getElem? (i := 41) rfl))) (by decide) (t := .int) (t' := (.array .int)) (by decide) (by decide)
theorem own_sn206 {Z : State} {a0 : Array Value} (hw : ∀ d ∈ tables_1, d.before a0 Z = true) : Jvm.RoadKit.slotOf Z "com/example/reachability/reachability/CandidateList" "foundCount" "I" ≠ Jvm.RoadKit.slotOf Z "com/example/reachability/reachability/CandidateList" "bucketStart" "[I" := slot_ne (Or.inl (hw _ (List.mem_of_getElem? (i := 56) rfl))) (Or.inr (hw _ (List.mem_of_getElem? (i := 41) rfl))) (by decide) (t := .int) (t' := (.array .int)) (by decide) (by decide)
theorem own_sn207 {Z : State} {a0 : Array Value} (hw : ∀ d ∈ tables_1, d.before a0 Z = true) : Jvm.RoadKit.slotOf Z "com/example/reachability/reachability/CandidateList" "firstOnly" "Z" ≠ Jvm.RoadKit.slotOf Z "com/example/reachability/reachability/CandidateList" "bucketStart" "[I" := slot_ne (Or.inl (hw _ (List.mem_of_getElem? (i := 48) rfl))) (Or.inr (hw _ (List.mem_of_getElem? (i := 41) rfl))) (by decide) (t := .boolean) (t' := (.array .int)) (by decide) (by decide)
theorem own_sn208 {Z : State} {a0 : Array Value} (hw : ∀ d ∈ tables_1, d.before a0 Z = true) : Jvm.RoadKit.slotOf Z "com/example/reachability/reachability/CandidateList" "forRuns" "Z" ≠ Jvm.RoadKit.slotOf Z "com/example/reachability/reachability/CandidateList" "bucketStart" "[I" := slot_ne (Or.inl (hw _ (List.mem_of_getElem? (i := 58) rfl))) (Or.inr (hw _ (List.mem_of_getElem? (i := 41) rfl))) (by decide) (t := .boolean) (t' := (.array .int)) (by decide) (by decide)
theorem own_sn209 {Z : State} {a0 : Array Value} (hw : ∀ d ∈ tables_1, d.before a0 Z = true) : Jvm.RoadKit.slotOf Z "com/example/reachability/reachability/CandidateList" "runsLength" "I" ≠ Jvm.RoadKit.slotOf Z "com/example/reachability/reachability/CandidateList" "bucketStart" "[I" := slot_ne (Or.inl (hw _ (List.mem_of_getElem? (i := 60) rfl))) (Or.inr (hw _ (List.mem_of_getElem? (i := 41) rfl))) (by decide) (t := .int) (t' := (.array .int)) (by decide) (by decide)
theorem d2_0 : decode prog_2_method_1_code 0 = .ok (.aload_n 0, 1) := by decide +kernel
theorem d2_1 : decode prog_2_method_1_code 1 = .ok (.invokespecial 1, 3) := by decide +kernel
theorem d2_4 : decode prog_2_method_1_code 4 = .ok (.aload_n 0, 1) := by decide +kernel
theorem d2_5 : decode prog_2_method_1_code 5 = .ok (.iconst 1, 1) := by decide +kernel
theorem d2_6 : decode prog_2_method_1_code 6 = .ok (.putfield 7, 3) := by decide +kernel
theorem d2_9 : decode prog_2_method_1_code 9 = .ok (.aload_n 0, 1) := by decide +kernel
theorem d2_10 : decode prog_2_method_1_code 10 = .ok (.bipush 8, 2) := by decide +kernel
theorem d2_12 : decode prog_2_method_1_code 12 = .ok (.newarray .int, 2) := by decide +kernel
theorem d2_14 : decode prog_2_method_1_code 14 = .ok (.putfield 13, 3) := by decide +kernel
theorem d2_17 : decode prog_2_method_1_code 17 = .ok (.aload_n 0, 1) := by decide +kernel
theorem d2_18 : decode prog_2_method_1_code 18 = .ok (.aload_n 1, 1) := by decide +kernel
theorem d2_19 : decode prog_2_method_1_code 19 = .ok (.putfield 17, 3) := by decide +kernel
theorem d2_22 : decode prog_2_method_1_code 22 = .ok (.aload_n 0, 1) := by decide +kernel
theorem d2_23 : decode prog_2_method_1_code 23 = .ok (.aload_n 2, 1) := by decide +kernel
theorem d2_24 : decode prog_2_method_1_code 24 = .ok (.putfield 20, 3) := by decide +kernel
theorem d2_27 : decode prog_2_method_1_code 27 = .ok (.aload_n 0, 1) := by decide +kernel
theorem d2_28 : decode prog_2_method_1_code 28 = .ok (.aload_n 1, 1) := by decide +kernel
theorem d2_29 : decode prog_2_method_1_code 29 = .ok (.arraylength, 1) := by decide +kernel
theorem d2_30 : decode prog_2_method_1_code 30 = .ok (.newarray .int, 2) := by decide +kernel
theorem d2_32 : decode prog_2_method_1_code 32 = .ok (.putfield 23, 3) := by decide +kernel
theorem d2_35 : decode prog_2_method_1_code 35 = .ok (.aload_n 0, 1) := by decide +kernel
theorem d2_36 : decode prog_2_method_1_code 36 = .ok (.aload_n 1, 1) := by decide +kernel
theorem d2_37 : decode prog_2_method_1_code 37 = .ok (.arraylength, 1) := by decide +kernel
theorem d2_38 : decode prog_2_method_1_code 38 = .ok (.newarray .int, 2) := by decide +kernel
theorem d2_40 : decode prog_2_method_1_code 40 = .ok (.putfield 26, 3) := by decide +kernel
theorem d2_43 : decode prog_2_method_1_code 43 = .ok (.aload_n 0, 1) := by decide +kernel
theorem d2_44 : decode prog_2_method_1_code 44 = .ok (.aload_n 1, 1) := by decide +kernel
theorem d2_45 : decode prog_2_method_1_code 45 = .ok (.arraylength, 1) := by decide +kernel
theorem d2_46 : decode prog_2_method_1_code 46 = .ok (.newarray .int, 2) := by decide +kernel
theorem d2_48 : decode prog_2_method_1_code 48 = .ok (.putfield 29, 3) := by decide +kernel
theorem d2_51 : decode prog_2_method_1_code 51 = .ok (.aload_n 0, 1) := by decide +kernel
theorem d2_52 : decode prog_2_method_1_code 52 = .ok (.aload_n 1, 1) := by decide +kernel
theorem d2_53 : decode prog_2_method_1_code 53 = .ok (.invokestatic 32, 3) := by decide +kernel
theorem d2_56 : decode prog_2_method_1_code 56 = .ok (.putfield 36, 3) := by decide +kernel
theorem d2_59 : decode prog_2_method_1_code 59 = .ok (.aload_n 0, 1) := by decide +kernel
theorem d2_60 : decode prog_2_method_1_code 60 = .ok (.aload_n 1, 1) := by decide +kernel
theorem d2_61 : decode prog_2_method_1_code 61 = .ok (.aload_n 0, 1) := by decide +kernel
theorem d2_62 : decode prog_2_method_1_code 62 = .ok (.getfield 36, 3) := by decide +kernel
theorem d2_65 : decode prog_2_method_1_code 65 = .ok (.invokestatic 38, 3) := by decide +kernel
theorem d2_68 : decode prog_2_method_1_code 68 = .ok (.putfield 42, 3) := by decide +kernel
theorem d2_71 : decode prog_2_method_1_code 71 = .ok (.return_, 1) := by decide +kernel
theorem pn_2 : plainName "com/example/reachability/reachability/CandidateList" = true := by first | (simp [plainName, overriddenIn]; done) | decide +kernel
theorem ef_2 (m : MethodId) (r0 : Addr) (r1 : Addr) (r2 : Addr) : entryFrame m #[(.ref r0), (.ref r1), (.ref r2)] 3 = mkF m 0 #[.val (.ref r0), .val (.ref r1), .val (.ref r2)] [] := by first | (simp [entryFrame, mkF, argsToLocals, Value.category]; done) | rfl
def rm2_room : Room := { frames := 2, cells := 5, slots := 21, locals := 29 }
def Qrm2 (Z : State) (r0 : Addr) (r1 : Addr) (r2 : Addr) (xg : Nat → Int32) (h0 : Heap) (n0 : Nat) (v : Option Value) (h : Heap) (L : List Loc) : Prop := ∃ rF : Addr, ∃ rX : Addr, ∃ rD : Addr, ∃ rB : Addr, ∃ gB : Nat → Int32, v = none ∧ Fr n0 L ∧ Keep h0 h [r0] ∧ h0.size ≤ rF ∧ h0.size ≤ rX ∧ h0.size ≤ rD ∧ h0.size ≤ rB ∧ Exa Z h r0 "com/example/reachability/reachability/CandidateList" ∧ Fld Z h r0 "com/example/reachability/reachability/CandidateList" "search" "I" (.int (1 : Int32)) ∧ Fld Z h r0 "com/example/reachability/reachability/CandidateList" "numbers" "[I" (.ref r1) ∧ Fld Z h r0 "com/example/reachability/reachability/CandidateList" "elements" "[I" (.ref r2) ∧ Fld Z h r0 "com/example/reachability/reachability/CandidateList" "foundIn" "[I" (.ref rF) ∧ Fld Z h r0 "com/example/reachability/reachability/CandidateList" "next" "[I" (.ref rX) ∧ Fld Z h r0 "com/example/reachability/reachability/CandidateList" "found" "[I" (.ref rD) ∧ Fld Z h r0 "com/example/reachability/reachability/CandidateList" "bucketShift" "I" (.int (own_f4 xg)) ∧ Fld Z h r0 "com/example/reachability/reachability/CandidateList" "bucketStart" "[I" (.ref rB) ∧ Fld Z h r0 "com/example/reachability/reachability/CandidateList" "foundCount" "I" (.int (0 : Int32)) ∧ Fld Z h r0 "com/example/reachability/reachability/CandidateList" "firstOnly" "Z" (.int (0 : Int32)) ∧ Fld Z h r0 "com/example/reachability/reachability/CandidateList" "forRuns" "Z" (.int (0 : Int32)) ∧ Fld Z h r0 "com/example/reachability/reachability/CandidateList" "runsLength" "I" (.int (0 : Int32)) ∧ own_Arf Z h rF .int (3 : Int32) (fun i => .int ((fun _ => (0 : Int32)) i)) ∧ own_Arf Z h rX .int (3 : Int32) (fun i => .int ((fun _ => (0 : Int32)) i)) ∧ own_Arf Z h rD .int (3 : Int32) (fun i => .int ((fun _ => (0 : Int32)) i)) ∧ own_Arf Z h rB .int ((own_iushr (xg 2) (own_f4 xg)) + (2 : Int32)) (fun i => .int (gB i)) ∧ rF ≠ rX ∧ rF ≠ rD ∧ rF ≠ rB ∧ rX ≠ rD ∧ rX ≠ rB ∧ rD ≠ rB ∧ own_spB xg (own_f4 xg) gB
set_option maxRecDepth 65536 in
set_option maxHeartbeats 40000000 in
theorem rm2 (l : Launch) (Z : State) (a0 : Array Value) (hw : ∀ d ∈ tables_1, d.before a0 Z = true) (ws : List Jvm.Cond) (r0 : Addr) (r1 : Addr) (r2 : Addr) (xg : Nat → Int32) (h0 : Heap) (n0 : Nat) (Z0 : n0 ≤ h0.size) (E_r0_0 : Exa Z h0 r0 "com/example/reachability/reachability/CandidateList") (F_search_r0_0 : Fld Z h0 r0 "com/example/reachability/reachability/CandidateList" "search" "I" (.int (0 : Int32))) (F_runs_r0_0 : Fld Z h0 r0 "com/example/reachability/reachability/CandidateList" "runs" "[I" .null) (F_numbers_r0_0 : Fld Z h0 r0 "com/example/reachability/reachability/CandidateList" "numbers" "[I" .null) (F_elements_r0_0 : Fld Z h0 r0 "com/example/reachability/reachability/CandidateList" "elements" "[I" .null) (F_foundIn_r0_0 : Fld Z h0 r0 "com/example/reachability/reachability/CandidateList" "foundIn" "[I" .null) (F_next_r0_0 : Fld Z h0 r0 "com/example/reachability/reachability/CandidateList" "next" "[I" .null) (F_found_r0_0 : Fld Z h0 r0 "com/example/reachability/reachability/CandidateList" "found" "[I" .null) (F_bucketShift_r0_0 : Fld Z h0 r0 "com/example/reachability/reachability/CandidateList" "bucketShift" "I" (.int (0 : Int32))) (F_bucketStart_r0_0 : Fld Z h0 r0 "com/example/reachability/reachability/CandidateList" "bucketStart" "[I" .null) (F_foundCount_r0_0 : Fld Z h0 r0 "com/example/reachability/reachability/CandidateList" "foundCount" "I" (.int (0 : Int32))) (F_firstOnly_r0_0 : Fld Z h0 r0 "com/example/reachability/reachability/CandidateList" "firstOnly" "Z" (.int (0 : Int32))) (F_forRuns_r0_0 : Fld Z h0 r0 "com/example/reachability/reachability/CandidateList" "forRuns" "Z" (.int (0 : Int32))) (F_runsLength_r0_0 : Fld Z h0 r0 "com/example/reachability/reachability/CandidateList" "runsLength" "I" (.int (0 : Int32))) (A_r1_0 : own_Arf Z h0 r1 .int (3 : Int32) (fun i => .int (xg i))) (ge_r0 : n0 ≤ r0) (hp : own_srt xg) :
    MetFree l (⟨"com/example/reachability/reachability/CandidateList", "<init>", "([I[I)V"⟩ : MethodName) (head1 (Jvm.Cond.code (⟨"com/example/reachability/reachability/CandidateList", "<init>", "([I[I)V"⟩ : MethodName) prog_2_method_1_code 3 none :: ws) rm2_room) (fun a U => a = #[(.ref r0), (.ref r1), (.ref r2)] ∧ Z.Warmed39 U.vm ∧ U.heap = h0) (fun _ _ _ _ _ => True) (fun _ U o U' => ∃ v L, o = .returned v ∧ Qrm2 Z r0 r1 r2 xg h0 n0 v U'.heap L ∧ FrameEnd U o U' L rm2_room.cells rm2_room.slots) := by
  refine MetFree.of_bodySF (plainFor_of_name pn_2) hisR ?_
  intro p e s m args below meth c s₁ Bd hml0 hP hK
  obtain ⟨rfl, hZ, hh⟩ := hP
  have hx := Bd.exec
  have hby := Bd.bytes
  have hml : c.maxLocals = 3 := hml0
  have hown : s.vm.findClass "com/example/reachability/reachability/CandidateList" = some m.cls := findClass_of_methodNamed Bd.named
  have hnm := (name_of_methodNamed Bd.named Bd.method).1
  have hlk : meth.locks = false := BodyLoose.notSynchronized Bd
  have X0 : Stand p l e rm2_room s m #[(.ref r0), (.ref r1), (.ref r2)] below meth c s₁ [] 0 0 := Stand.of_body Bd
  have e0 : s₁.heap = h0 := by rw [← hh, Bd.state]; rfl
  have N0 := Fr.nil n0
  show own_Fin p.tables e below s (Qrm2 Z r0 r1 r2 xg h0 n0) rm2_room.cells rm2_room.slots (s₁.setTop (entryFrame m #[(.ref r0), (.ref r1), (.ref r2)] 3))
  rw [ef_2]
  show own_Fin _ _ _ _ _ _ _ (s₁.setTop (mkF m 0 #[.val (.ref r0), .val (.ref r1), .val (.ref r2)] []))
  have K0 := Keep.refl h0 [r0]
  refine own_go (fun _ k => XS.aloadN X0.here hx rfl (hb hby d2_0) rfl rfl k) ?_
  obtain ⟨T1, X1, e1, st1⟩ := initO X0 hx hZ hown (hw _ (List.mem_of_getElem? (i := 11) rfl)) (hw _ (List.mem_of_getElem? (i := 12) rfl)) (hw _ (List.mem_of_getElem? (i := 13) rfl)) e0 (g := (mkF m 1 #[.val (.ref r0), .val (.ref r1), .val (.ref r2)] [(.ref r0)])) rfl (by rw [hml]; rfl) rfl (hb hby d2_1) (by decide) (W := 0) (by show 2 * 0 + _ ≤ _; exact Nat.le_of_eq rfl) (by decide)
  refine own_go (fun tg k => st1 tg k) ?_
  show own_Fin _ _ _ _ _ _ _ (T1.setTop (mkF m 4 #[.val (.ref r0), .val (.ref r1), .val (.ref r2)] []))
  refine own_go (fun _ k => XS.aloadN X1.here hx rfl (hb hby d2_4) rfl rfl k) ?_
  refine own_go (fun _ k => XS.iconst X1.here hx rfl (hb hby d2_5) k) ?_
  obtain ⟨T2, h2, X2, e2, W2, st2⟩ := putF X1 hx hZ hown (host := "") (Or.inl (hw _ (List.mem_of_getElem? (i := 14) rfl))) Via.refl e1 F_search_r0_0 E_r0_0 (Or.inl (hw _ (List.mem_of_getElem? (i := 15) rfl))) (hw _ (List.mem_of_getElem? (i := 5) rfl)) (ty := .int) (by decide) rfl rfl (g := (mkF m 6 #[.val (.ref r0), .val (.ref r1), .val (.ref r2)] [(.int (1 : Int32)), (.ref r0)])) rfl rfl (hb hby d2_6)
  have E_r0_2 := E_r0_0.wr W2
  have F_runs_r0_2 := F_runs_r0_0.other W2 (Or.inr (own_sn100 hw))
  have F_numbers_r0_2 := F_numbers_r0_0.other W2 (Or.inr (own_sn101 hw))
  have F_elements_r0_2 := F_elements_r0_0.other W2 (Or.inr (own_sn102 hw))
  have F_foundIn_r0_2 := F_foundIn_r0_0.other W2 (Or.inr (own_sn103 hw))
  have F_next_r0_2 := F_next_r0_0.other W2 (Or.inr (own_sn104 hw))
  have F_found_r0_2 := F_found_r0_0.other W2 (Or.inr (own_sn105 hw))
  have F_bucketShift_r0_2 := F_bucketShift_r0_0.other W2 (Or.inr (own_sn106 hw))
  have F_bucketStart_r0_2 := F_bucketStart_r0_0.other W2 (Or.inr (own_sn107 hw))
  have F_foundCount_r0_2 := F_foundCount_r0_0.other W2 (Or.inr (own_sn108 hw))
  have F_firstOnly_r0_2 := F_firstOnly_r0_0.other W2 (Or.inr (own_sn109 hw))
  have F_forRuns_r0_2 := F_forRuns_r0_0.other W2 (Or.inr (own_sn110 hw))
  have F_runsLength_r0_2 := F_runsLength_r0_0.other W2 (Or.inr (own_sn111 hw))
  have A_r1_2 := A_r1_0.other W2 (Ne.symm (own_ne_arf E_r0_0 (hw _ (List.mem_of_getElem? (i := 5) rfl)) A_r1_0))
  have K2 := K0.wr W2 (Or.inl (List.mem_of_getElem? (i := 0) rfl))
  have N2 := Fr.snoc X2 N0 ge_r0
  have Z2 : n0 ≤ h2.size := Nat.le_trans Z0 (Keep.of_wr W2).1
  have F_search_r0_2 := F_search_r0_0.same W2
  refine own_go (fun tg k => st2 tg k) ?_
  show own_Fin _ _ _ _ _ _ _ (T2.setTop (mkF m 9 #[.val (.ref r0), .val (.ref r1), .val (.ref r2)] []))
  refine own_go (fun _ k => XS.aloadN X2.here hx rfl (hb hby d2_9) rfl rfl k) ?_
  refine own_go (fun _ k => XS.bipush X2.here hx rfl (hb hby d2_10) k) ?_
  obtain ⟨T3, h3, k3, X3, e3, E3, A3, st3⟩ := newP X2 hx hZ (hw _ (List.mem_of_getElem? (i := 7) rfl)) e2 (g := (mkF m 12 #[.val (.ref r0), .val (.ref r1), .val (.ref r2)] [(.int (8 : Int32)), (.ref r0)])) rfl (hb hby d2_12) rfl (by decide) (cap := 8) (by decide) (by decide) (by decide) (by decide)
  obtain ⟨b3, g3⟩ : ∃ z, z = h2.size := ⟨_, rfl⟩
  rw [← g3] at A3 st3
  have ne_r0_b3 : r0 ≠ b3 := Nat.ne_of_lt (Nat.lt_of_lt_of_le E_r0_2.lt (Nat.le_of_eq g3.symm))
  have ne_r1_b3 : r1 ≠ b3 := Nat.ne_of_lt (Nat.lt_of_lt_of_le A_r1_2.lt (Nat.le_of_eq g3.symm))
  have ge_b3 : n0 ≤ b3 := Nat.le_trans Z2 (Nat.le_of_eq g3.symm)
  have sz_b3 : h0.size ≤ b3 := Nat.le_trans K2.1 (Nat.le_of_eq g3.symm)
  have E_r0_3 := E_r0_2.ext E3
  have F_search_r0_3 := F_search_r0_2.ext E3
  have F_runs_r0_3 := F_runs_r0_2.ext E3
  have F_numbers_r0_3 := F_numbers_r0_2.ext E3
  have F_elements_r0_3 := F_elements_r0_2.ext E3
  have F_foundIn_r0_3 := F_foundIn_r0_2.ext E3
  have F_next_r0_3 := F_next_r0_2.ext E3
  have F_found_r0_3 := F_found_r0_2.ext E3
  have F_bucketShift_r0_3 := F_bucketShift_r0_2.ext E3
  have F_bucketStart_r0_3 := F_bucketStart_r0_2.ext E3
  have F_foundCount_r0_3 := F_foundCount_r0_2.ext E3
  have F_firstOnly_r0_3 := F_firstOnly_r0_2.ext E3
  have F_forRuns_r0_3 := F_forRuns_r0_2.ext E3
  have F_runsLength_r0_3 := F_runsLength_r0_2.ext E3
  have A_r1_3 := A_r1_2.ext E3
  have K3 := K2.ext E3
  have Z3 : n0 ≤ h3.size := Nat.le_trans Z2 E3.1
  have A_b3_3 : own_Arf Z h3 b3 .int (8 : Int32) (fun i => .int ((fun _ => (0 : Int32)) i)) := own_Arf.new A3 (by decide)
  refine own_go (fun tg k => st3 tg k) ?_
  show own_Fin _ _ _ _ _ _ _ (T3.setTop (mkF m 14 #[.val (.ref r0), .val (.ref r1), .val (.ref r2)] [(.ref b3), (.ref r0)]))
  obtain ⟨T4, h4, X4, e4, W4, st4⟩ := putF X3 hx hZ hown (host := "") (Or.inl (hw _ (List.mem_of_getElem? (i := 16) rfl))) Via.refl e3 F_runs_r0_3 E_r0_3 (Or.inl (hw _ (List.mem_of_getElem? (i := 17) rfl))) (hw _ (List.mem_of_getElem? (i := 5) rfl)) (ty := (.array .int)) (by decide) rfl rfl (g := (mkF m 14 #[.val (.ref r0), .val (.ref r1), .val (.ref r2)] [(.ref b3), (.ref r0)])) rfl rfl (hb hby d2_14)
  have E_r0_4 := E_r0_3.wr W4
  have F_search_r0_4 := F_search_r0_3.other W4 (Or.inr (own_sn112 hw))
  have F_numbers_r0_4 := F_numbers_r0_3.other W4 (Or.inr (own_sn113 hw))
  have F_elements_r0_4 := F_elements_r0_3.other W4 (Or.inr (own_sn114 hw))
  have F_foundIn_r0_4 := F_foundIn_r0_3.other W4 (Or.inr (own_sn115 hw))
  have F_next_r0_4 := F_next_r0_3.other W4 (Or.inr (own_sn116 hw))
  have F_found_r0_4 := F_found_r0_3.other W4 (Or.inr (own_sn117 hw))
  have F_bucketShift_r0_4 := F_bucketShift_r0_3.other W4 (Or.inr (own_sn118 hw))
  have F_bucketStart_r0_4 := F_bucketStart_r0_3.other W4 (Or.inr (own_sn119 hw))
  have F_foundCount_r0_4 := F_foundCount_r0_3.other W4 (Or.inr (own_sn120 hw))
  have F_firstOnly_r0_4 := F_firstOnly_r0_3.other W4 (Or.inr (own_sn121 hw))
  have F_forRuns_r0_4 := F_forRuns_r0_3.other W4 (Or.inr (own_sn122 hw))
  have F_runsLength_r0_4 := F_runsLength_r0_3.other W4 (Or.inr (own_sn123 hw))
  have A_r1_4 := A_r1_3.other W4 (Ne.symm (own_ne_arf E_r0_3 (hw _ (List.mem_of_getElem? (i := 5) rfl)) A_r1_3))
  have A_b3_4 := A_b3_3.other W4 (Ne.symm ne_r0_b3)
  have K4 := K3.wr W4 (Or.inl (List.mem_of_getElem? (i := 0) rfl))
  have N4 := Fr.snoc X4 N2 ge_r0
  have Z4 : n0 ≤ h4.size := Nat.le_trans Z3 (Keep.of_wr W4).1
  have F_runs_r0_4 := F_runs_r0_3.same W4
  refine own_go (fun tg k => st4 tg k) ?_
  show own_Fin _ _ _ _ _ _ _ (T4.setTop (mkF m 17 #[.val (.ref r0), .val (.ref r1), .val (.ref r2)] []))
  refine own_go (fun _ k => XS.aloadN X4.here hx rfl (hb hby d2_17) rfl rfl k) ?_
  refine own_go (fun _ k => XS.aloadN X4.here hx rfl (hb hby d2_18) rfl rfl k) ?_
  obtain ⟨T5, h5, X5, e5, W5, st5⟩ := putF X4 hx hZ hown (host := "") (Or.inl (hw _ (List.mem_of_getElem? (i := 18) rfl))) Via.refl e4 F_numbers_r0_4 E_r0_4 (Or.inr ⟨(hw _ (List.mem_of_getElem? (i := 19) rfl)), rfl, hnm⟩) (hw _ (List.mem_of_getElem? (i := 5) rfl)) (ty := (.array .int)) (by decide) rfl rfl (g := (mkF m 19 #[.val (.ref r0), .val (.ref r1), .val (.ref r2)] [(.ref r1), (.ref r0)])) rfl rfl (hb hby d2_19)
  have E_r0_5 := E_r0_4.wr W5
  have F_search_r0_5 := F_search_r0_4.other W5 (Or.inr (own_sn124 hw))
  have F_runs_r0_5 := F_runs_r0_4.other W5 (Or.inr (own_sn125 hw))
  have F_elements_r0_5 := F_elements_r0_4.other W5 (Or.inr (own_sn126 hw))
  have F_foundIn_r0_5 := F_foundIn_r0_4.other W5 (Or.inr (own_sn127 hw))
  have F_next_r0_5 := F_next_r0_4.other W5 (Or.inr (own_sn128 hw))
  have F_found_r0_5 := F_found_r0_4.other W5 (Or.inr (own_sn129 hw))
  have F_bucketShift_r0_5 := F_bucketShift_r0_4.other W5 (Or.inr (own_sn130 hw))
  have F_bucketStart_r0_5 := F_bucketStart_r0_4.other W5 (Or.inr (own_sn131 hw))
  have F_foundCount_r0_5 := F_foundCount_r0_4.other W5 (Or.inr (own_sn132 hw))
  have F_firstOnly_r0_5 := F_firstOnly_r0_4.other W5 (Or.inr (own_sn133 hw))
  have F_forRuns_r0_5 := F_forRuns_r0_4.other W5 (Or.inr (own_sn134 hw))
  have F_runsLength_r0_5 := F_runsLength_r0_4.other W5 (Or.inr (own_sn135 hw))
  have A_r1_5 := A_r1_4.other W5 (Ne.symm (own_ne_arf E_r0_4 (hw _ (List.mem_of_getElem? (i := 5) rfl)) A_r1_4))
  have A_b3_5 := A_b3_4.other W5 (Ne.symm ne_r0_b3)
  have K5 := K4.wr W5 (Or.inl (List.mem_of_getElem? (i := 0) rfl))
  have N5 := Fr.snoc X5 N4 ge_r0
  have Z5 : n0 ≤ h5.size := Nat.le_trans Z4 (Keep.of_wr W5).1
  have F_numbers_r0_5 := F_numbers_r0_4.same W5
  refine own_go (fun tg k => st5 tg k) ?_
  show own_Fin _ _ _ _ _ _ _ (T5.setTop (mkF m 22 #[.val (.ref r0), .val (.ref r1), .val (.ref r2)] []))
  refine own_go (fun _ k => XS.aloadN X5.here hx rfl (hb hby d2_22) rfl rfl k) ?_
  refine own_go (fun _ k => XS.aloadN X5.here hx rfl (hb hby d2_23) rfl rfl k) ?_
  obtain ⟨T6, h6, X6, e6, W6, st6⟩ := putF X5 hx hZ hown (host := "") (Or.inl (hw _ (List.mem_of_getElem? (i := 20) rfl))) Via.refl e5 F_elements_r0_5 E_r0_5 (Or.inr ⟨(hw _ (List.mem_of_getElem? (i := 21) rfl)), rfl, hnm⟩) (hw _ (List.mem_of_getElem? (i := 5) rfl)) (ty := (.array .int)) (by decide) rfl rfl (g := (mkF m 24 #[.val (.ref r0), .val (.ref r1), .val (.ref r2)] [(.ref r2), (.ref r0)])) rfl rfl (hb hby d2_24)
  have E_r0_6 := E_r0_5.wr W6
  have F_search_r0_6 := F_search_r0_5.other W6 (Or.inr (own_sn136 hw))
  have F_runs_r0_6 := F_runs_r0_5.other W6 (Or.inr (own_sn137 hw))
  have F_numbers_r0_6 := F_numbers_r0_5.other W6 (Or.inr (own_sn138 hw))
  have F_foundIn_r0_6 := F_foundIn_r0_5.other W6 (Or.inr (own_sn139 hw))
  have F_next_r0_6 := F_next_r0_5.other W6 (Or.inr (own_sn140 hw))
  have F_found_r0_6 := F_found_r0_5.other W6 (Or.inr (own_sn141 hw))
  have F_bucketShift_r0_6 := F_bucketShift_r0_5.other W6 (Or.inr (own_sn142 hw))
  have F_bucketStart_r0_6 := F_bucketStart_r0_5.other W6 (Or.inr (own_sn143 hw))
  have F_foundCount_r0_6 := F_foundCount_r0_5.other W6 (Or.inr (own_sn144 hw))
  have F_firstOnly_r0_6 := F_firstOnly_r0_5.other W6 (Or.inr (own_sn145 hw))
  have F_forRuns_r0_6 := F_forRuns_r0_5.other W6 (Or.inr (own_sn146 hw))
  have F_runsLength_r0_6 := F_runsLength_r0_5.other W6 (Or.inr (own_sn147 hw))
  have A_r1_6 := A_r1_5.other W6 (Ne.symm (own_ne_arf E_r0_5 (hw _ (List.mem_of_getElem? (i := 5) rfl)) A_r1_5))
  have A_b3_6 := A_b3_5.other W6 (Ne.symm ne_r0_b3)
  have K6 := K5.wr W6 (Or.inl (List.mem_of_getElem? (i := 0) rfl))
  have N6 := Fr.snoc X6 N5 ge_r0
  have Z6 : n0 ≤ h6.size := Nat.le_trans Z5 (Keep.of_wr W6).1
  have F_elements_r0_6 := F_elements_r0_5.same W6
  refine own_go (fun tg k => st6 tg k) ?_
  show own_Fin _ _ _ _ _ _ _ (T6.setTop (mkF m 27 #[.val (.ref r0), .val (.ref r1), .val (.ref r2)] []))
  refine own_go (fun _ k => XS.aloadN X6.here hx rfl (hb hby d2_27) rfl rfl k) ?_
  refine own_go (fun _ k => XS.aloadN X6.here hx rfl (hb hby d2_28) rfl rfl k) ?_
  refine own_go (fun tg k => own_alen X6 hx hZ e6 A_r1_6 (g := (mkF m 29 #[.val (.ref r0), .val (.ref r1), .val (.ref r2)] [(.ref r1), (.ref r0)])) rfl rfl (hb hby d2_29) tg k) ?_
  show own_Fin _ _ _ _ _ _ _ (T6.setTop (mkF m 30 #[.val (.ref r0), .val (.ref r1), .val (.ref r2)] [(.int (3 : Int32)), (.ref r0)]))
  obtain ⟨T7, h7, k7, X7, e7, E7, A7, st7⟩ := newP X6 hx hZ (hw _ (List.mem_of_getElem? (i := 7) rfl)) e6 (g := (mkF m 30 #[.val (.ref r0), .val (.ref r1), .val (.ref r2)] [(.int (3 : Int32)), (.ref r0)])) rfl (hb hby d2_30) rfl (by decide) (cap := 3) (by decide) (by decide) (by decide) (by decide)
  obtain ⟨b7, g7⟩ : ∃ z, z = h6.size := ⟨_, rfl⟩
  rw [← g7] at A7 st7
  have ne_r0_b7 : r0 ≠ b7 := Nat.ne_of_lt (Nat.lt_of_lt_of_le E_r0_6.lt (Nat.le_of_eq g7.symm))
  have ne_r1_b7 : r1 ≠ b7 := Nat.ne_of_lt (Nat.lt_of_lt_of_le A_r1_6.lt (Nat.le_of_eq g7.symm))
  have ne_b3_b7 : b3 ≠ b7 := Nat.ne_of_lt (Nat.lt_of_lt_of_le A_b3_6.lt (Nat.le_of_eq g7.symm))
  have ge_b7 : n0 ≤ b7 := Nat.le_trans Z6 (Nat.le_of_eq g7.symm)
  have sz_b7 : h0.size ≤ b7 := Nat.le_trans K6.1 (Nat.le_of_eq g7.symm)
  have E_r0_7 := E_r0_6.ext E7
  have F_search_r0_7 := F_search_r0_6.ext E7
  have F_runs_r0_7 := F_runs_r0_6.ext E7
  have F_numbers_r0_7 := F_numbers_r0_6.ext E7
  have F_elements_r0_7 := F_elements_r0_6.ext E7
  have F_foundIn_r0_7 := F_foundIn_r0_6.ext E7
  have F_next_r0_7 := F_next_r0_6.ext E7
  have F_found_r0_7 := F_found_r0_6.ext E7
  have F_bucketShift_r0_7 := F_bucketShift_r0_6.ext E7
  have F_bucketStart_r0_7 := F_bucketStart_r0_6.ext E7
  have F_foundCount_r0_7 := F_foundCount_r0_6.ext E7
  have F_firstOnly_r0_7 := F_firstOnly_r0_6.ext E7
  have F_forRuns_r0_7 := F_forRuns_r0_6.ext E7
  have F_runsLength_r0_7 := F_runsLength_r0_6.ext E7
  have A_r1_7 := A_r1_6.ext E7
  have A_b3_7 := A_b3_6.ext E7
  have K7 := K6.ext E7
  have Z7 : n0 ≤ h7.size := Nat.le_trans Z6 E7.1
  have A_b7_7 : own_Arf Z h7 b7 .int (3 : Int32) (fun i => .int ((fun _ => (0 : Int32)) i)) := own_Arf.new A7 (by decide)
  refine own_go (fun tg k => st7 tg k) ?_
  show own_Fin _ _ _ _ _ _ _ (T7.setTop (mkF m 32 #[.val (.ref r0), .val (.ref r1), .val (.ref r2)] [(.ref b7), (.ref r0)]))
  obtain ⟨T8, h8, X8, e8, W8, st8⟩ := putF X7 hx hZ hown (host := "") (Or.inl (hw _ (List.mem_of_getElem? (i := 22) rfl))) Via.refl e7 F_foundIn_r0_7 E_r0_7 (Or.inr ⟨(hw _ (List.mem_of_getElem? (i := 23) rfl)), rfl, hnm⟩) (hw _ (List.mem_of_getElem? (i := 5) rfl)) (ty := (.array .int)) (by decide) rfl rfl (g := (mkF m 32 #[.val (.ref r0), .val (.ref r1), .val (.ref r2)] [(.ref b7), (.ref r0)])) rfl rfl (hb hby d2_32)
  have E_r0_8 := E_r0_7.wr W8
  have F_search_r0_8 := F_search_r0_7.other W8 (Or.inr (own_sn148 hw))
  have F_runs_r0_8 := F_runs_r0_7.other W8 (Or.inr (own_sn149 hw))
  have F_numbers_r0_8 := F_numbers_r0_7.other W8 (Or.inr (own_sn150 hw))
  have F_elements_r0_8 := F_elements_r0_7.other W8 (Or.inr (own_sn151 hw))
  have F_next_r0_8 := F_next_r0_7.other W8 (Or.inr (own_sn152 hw))
  have F_found_r0_8 := F_found_r0_7.other W8 (Or.inr (own_sn153 hw))
  have F_bucketShift_r0_8 := F_bucketShift_r0_7.other W8 (Or.inr (own_sn154 hw))
  have F_bucketStart_r0_8 := F_bucketStart_r0_7.other W8 (Or.inr (own_sn155 hw))
  have F_foundCount_r0_8 := F_foundCount_r0_7.other W8 (Or.inr (own_sn156 hw))
  have F_firstOnly_r0_8 := F_firstOnly_r0_7.other W8 (Or.inr (own_sn157 hw))
  have F_forRuns_r0_8 := F_forRuns_r0_7.other W8 (Or.inr (own_sn158 hw))
  have F_runsLength_r0_8 := F_runsLength_r0_7.other W8 (Or.inr (own_sn159 hw))
  have A_r1_8 := A_r1_7.other W8 (Ne.symm (own_ne_arf E_r0_7 (hw _ (List.mem_of_getElem? (i := 5) rfl)) A_r1_7))
  have A_b3_8 := A_b3_7.other W8 (Ne.symm ne_r0_b3)
  have A_b7_8 := A_b7_7.other W8 (Ne.symm ne_r0_b7)
  have K8 := K7.wr W8 (Or.inl (List.mem_of_getElem? (i := 0) rfl))
  have N8 := Fr.snoc X8 N6 ge_r0
  have Z8 : n0 ≤ h8.size := Nat.le_trans Z7 (Keep.of_wr W8).1
  have F_foundIn_r0_8 := F_foundIn_r0_7.same W8
  refine own_go (fun tg k => st8 tg k) ?_
  show own_Fin _ _ _ _ _ _ _ (T8.setTop (mkF m 35 #[.val (.ref r0), .val (.ref r1), .val (.ref r2)] []))
  refine own_go (fun _ k => XS.aloadN X8.here hx rfl (hb hby d2_35) rfl rfl k) ?_
  refine own_go (fun _ k => XS.aloadN X8.here hx rfl (hb hby d2_36) rfl rfl k) ?_
  refine own_go (fun tg k => own_alen X8 hx hZ e8 A_r1_8 (g := (mkF m 37 #[.val (.ref r0), .val (.ref r1), .val (.ref r2)] [(.ref r1), (.ref r0)])) rfl rfl (hb hby d2_37) tg k) ?_
  show own_Fin _ _ _ _ _ _ _ (T8.setTop (mkF m 38 #[.val (.ref r0), .val (.ref r1), .val (.ref r2)] [(.int (3 : Int32)), (.ref r0)]))
  obtain ⟨T9, h9, k9, X9, e9, E9, A9, st9⟩ := newP X8 hx hZ (hw _ (List.mem_of_getElem? (i := 7) rfl)) e8 (g := (mkF m 38 #[.val (.ref r0), .val (.ref r1), .val (.ref r2)] [(.int (3 : Int32)), (.ref r0)])) rfl (hb hby d2_38) rfl (by decide) (cap := 3) (by decide) (by decide) (by decide) (by decide)
  obtain ⟨b9, g9⟩ : ∃ z, z = h8.size := ⟨_, rfl⟩
  rw [← g9] at A9 st9
  have ne_r0_b9 : r0 ≠ b9 := Nat.ne_of_lt (Nat.lt_of_lt_of_le E_r0_8.lt (Nat.le_of_eq g9.symm))
  have ne_r1_b9 : r1 ≠ b9 := Nat.ne_of_lt (Nat.lt_of_lt_of_le A_r1_8.lt (Nat.le_of_eq g9.symm))
  have ne_b3_b9 : b3 ≠ b9 := Nat.ne_of_lt (Nat.lt_of_lt_of_le A_b3_8.lt (Nat.le_of_eq g9.symm))
  have ne_b7_b9 : b7 ≠ b9 := Nat.ne_of_lt (Nat.lt_of_lt_of_le A_b7_8.lt (Nat.le_of_eq g9.symm))
  have ge_b9 : n0 ≤ b9 := Nat.le_trans Z8 (Nat.le_of_eq g9.symm)
  have sz_b9 : h0.size ≤ b9 := Nat.le_trans K8.1 (Nat.le_of_eq g9.symm)
  have E_r0_9 := E_r0_8.ext E9
  have F_search_r0_9 := F_search_r0_8.ext E9
  have F_runs_r0_9 := F_runs_r0_8.ext E9
  have F_numbers_r0_9 := F_numbers_r0_8.ext E9
  have F_elements_r0_9 := F_elements_r0_8.ext E9
  have F_foundIn_r0_9 := F_foundIn_r0_8.ext E9
  have F_next_r0_9 := F_next_r0_8.ext E9
  have F_found_r0_9 := F_found_r0_8.ext E9
  have F_bucketShift_r0_9 := F_bucketShift_r0_8.ext E9
  have F_bucketStart_r0_9 := F_bucketStart_r0_8.ext E9
  have F_foundCount_r0_9 := F_foundCount_r0_8.ext E9
  have F_firstOnly_r0_9 := F_firstOnly_r0_8.ext E9
  have F_forRuns_r0_9 := F_forRuns_r0_8.ext E9
  have F_runsLength_r0_9 := F_runsLength_r0_8.ext E9
  have A_r1_9 := A_r1_8.ext E9
  have A_b3_9 := A_b3_8.ext E9
  have A_b7_9 := A_b7_8.ext E9
  have K9 := K8.ext E9
  have Z9 : n0 ≤ h9.size := Nat.le_trans Z8 E9.1
  have A_b9_9 : own_Arf Z h9 b9 .int (3 : Int32) (fun i => .int ((fun _ => (0 : Int32)) i)) := own_Arf.new A9 (by decide)
  refine own_go (fun tg k => st9 tg k) ?_
  show own_Fin _ _ _ _ _ _ _ (T9.setTop (mkF m 40 #[.val (.ref r0), .val (.ref r1), .val (.ref r2)] [(.ref b9), (.ref r0)]))
  obtain ⟨T10, h10, X10, e10, W10, st10⟩ := putF X9 hx hZ hown (host := "") (Or.inl (hw _ (List.mem_of_getElem? (i := 24) rfl))) Via.refl e9 F_next_r0_9 E_r0_9 (Or.inr ⟨(hw _ (List.mem_of_getElem? (i := 25) rfl)), rfl, hnm⟩) (hw _ (List.mem_of_getElem? (i := 5) rfl)) (ty := (.array .int)) (by decide) rfl rfl (g := (mkF m 40 #[.val (.ref r0), .val (.ref r1), .val (.ref r2)] [(.ref b9), (.ref r0)])) rfl rfl (hb hby d2_40)
  have E_r0_10 := E_r0_9.wr W10
  have F_search_r0_10 := F_search_r0_9.other W10 (Or.inr (own_sn160 hw))
  have F_runs_r0_10 := F_runs_r0_9.other W10 (Or.inr (own_sn161 hw))
  have F_numbers_r0_10 := F_numbers_r0_9.other W10 (Or.inr (own_sn162 hw))
  have F_elements_r0_10 := F_elements_r0_9.other W10 (Or.inr (own_sn163 hw))
  have F_foundIn_r0_10 := F_foundIn_r0_9.other W10 (Or.inr (own_sn164 hw))
  have F_found_r0_10 := F_found_r0_9.other W10 (Or.inr (own_sn165 hw))
  have F_bucketShift_r0_10 := F_bucketShift_r0_9.other W10 (Or.inr (own_sn166 hw))
  have F_bucketStart_r0_10 := F_bucketStart_r0_9.other W10 (Or.inr (own_sn167 hw))
  have F_foundCount_r0_10 := F_foundCount_r0_9.other W10 (Or.inr (own_sn168 hw))
  have F_firstOnly_r0_10 := F_firstOnly_r0_9.other W10 (Or.inr (own_sn169 hw))
  have F_forRuns_r0_10 := F_forRuns_r0_9.other W10 (Or.inr (own_sn170 hw))
  have F_runsLength_r0_10 := F_runsLength_r0_9.other W10 (Or.inr (own_sn171 hw))
  have A_r1_10 := A_r1_9.other W10 (Ne.symm (own_ne_arf E_r0_9 (hw _ (List.mem_of_getElem? (i := 5) rfl)) A_r1_9))
  have A_b3_10 := A_b3_9.other W10 (Ne.symm ne_r0_b3)
  have A_b7_10 := A_b7_9.other W10 (Ne.symm ne_r0_b7)
  have A_b9_10 := A_b9_9.other W10 (Ne.symm ne_r0_b9)
  have K10 := K9.wr W10 (Or.inl (List.mem_of_getElem? (i := 0) rfl))
  have N10 := Fr.snoc X10 N8 ge_r0
  have Z10 : n0 ≤ h10.size := Nat.le_trans Z9 (Keep.of_wr W10).1
  have F_next_r0_10 := F_next_r0_9.same W10
  refine own_go (fun tg k => st10 tg k) ?_
  show own_Fin _ _ _ _ _ _ _ (T10.setTop (mkF m 43 #[.val (.ref r0), .val (.ref r1), .val (.ref r2)] []))
  refine own_go (fun _ k => XS.aloadN X10.here hx rfl (hb hby d2_43) rfl rfl k) ?_
  refine own_go (fun _ k => XS.aloadN X10.here hx rfl (hb hby d2_44) rfl rfl k) ?_
  refine own_go (fun tg k => own_alen X10 hx hZ e10 A_r1_10 (g := (mkF m 45 #[.val (.ref r0), .val (.ref r1), .val (.ref r2)] [(.ref r1), (.ref r0)])) rfl rfl (hb hby d2_45) tg k) ?_
  show own_Fin _ _ _ _ _ _ _ (T10.setTop (mkF m 46 #[.val (.ref r0), .val (.ref r1), .val (.ref r2)] [(.int (3 : Int32)), (.ref r0)]))
  obtain ⟨T11, h11, k11, X11, e11, E11, A11, st11⟩ := newP X10 hx hZ (hw _ (List.mem_of_getElem? (i := 7) rfl)) e10 (g := (mkF m 46 #[.val (.ref r0), .val (.ref r1), .val (.ref r2)] [(.int (3 : Int32)), (.ref r0)])) rfl (hb hby d2_46) rfl (by decide) (cap := 3) (by decide) (by decide) (by decide) (by decide)
  obtain ⟨b11, g11⟩ : ∃ z, z = h10.size := ⟨_, rfl⟩
  rw [← g11] at A11 st11
  have ne_r0_b11 : r0 ≠ b11 := Nat.ne_of_lt (Nat.lt_of_lt_of_le E_r0_10.lt (Nat.le_of_eq g11.symm))
  have ne_r1_b11 : r1 ≠ b11 := Nat.ne_of_lt (Nat.lt_of_lt_of_le A_r1_10.lt (Nat.le_of_eq g11.symm))
  have ne_b3_b11 : b3 ≠ b11 := Nat.ne_of_lt (Nat.lt_of_lt_of_le A_b3_10.lt (Nat.le_of_eq g11.symm))
  have ne_b7_b11 : b7 ≠ b11 := Nat.ne_of_lt (Nat.lt_of_lt_of_le A_b7_10.lt (Nat.le_of_eq g11.symm))
  have ne_b9_b11 : b9 ≠ b11 := Nat.ne_of_lt (Nat.lt_of_lt_of_le A_b9_10.lt (Nat.le_of_eq g11.symm))
  have ge_b11 : n0 ≤ b11 := Nat.le_trans Z10 (Nat.le_of_eq g11.symm)
  have sz_b11 : h0.size ≤ b11 := Nat.le_trans K10.1 (Nat.le_of_eq g11.symm)
  have E_r0_11 := E_r0_10.ext E11
  have F_search_r0_11 := F_search_r0_10.ext E11
  have F_runs_r0_11 := F_runs_r0_10.ext E11
  have F_numbers_r0_11 := F_numbers_r0_10.ext E11
  have F_elements_r0_11 := F_elements_r0_10.ext E11
  have F_foundIn_r0_11 := F_foundIn_r0_10.ext E11
  have F_next_r0_11 := F_next_r0_10.ext E11
  have F_found_r0_11 := F_found_r0_10.ext E11
  have F_bucketShift_r0_11 := F_bucketShift_r0_10.ext E11
  have F_bucketStart_r0_11 := F_bucketStart_r0_10.ext E11
  have F_foundCount_r0_11 := F_foundCount_r0_10.ext E11
  have F_firstOnly_r0_11 := F_firstOnly_r0_10.ext E11
  have F_forRuns_r0_11 := F_forRuns_r0_10.ext E11
  have F_runsLength_r0_11 := F_runsLength_r0_10.ext E11
  have A_r1_11 := A_r1_10.ext E11
  have A_b3_11 := A_b3_10.ext E11
  have A_b7_11 := A_b7_10.ext E11
  have A_b9_11 := A_b9_10.ext E11
  have K11 := K10.ext E11
  have Z11 : n0 ≤ h11.size := Nat.le_trans Z10 E11.1
  have A_b11_11 : own_Arf Z h11 b11 .int (3 : Int32) (fun i => .int ((fun _ => (0 : Int32)) i)) := own_Arf.new A11 (by decide)
  refine own_go (fun tg k => st11 tg k) ?_
  show own_Fin _ _ _ _ _ _ _ (T11.setTop (mkF m 48 #[.val (.ref r0), .val (.ref r1), .val (.ref r2)] [(.ref b11), (.ref r0)]))
  obtain ⟨T12, h12, X12, e12, W12, st12⟩ := putF X11 hx hZ hown (host := "") (Or.inl (hw _ (List.mem_of_getElem? (i := 26) rfl))) Via.refl e11 F_found_r0_11 E_r0_11 (Or.inr ⟨(hw _ (List.mem_of_getElem? (i := 27) rfl)), rfl, hnm⟩) (hw _ (List.mem_of_getElem? (i := 5) rfl)) (ty := (.array .int)) (by decide) rfl rfl (g := (mkF m 48 #[.val (.ref r0), .val (.ref r1), .val (.ref r2)] [(.ref b11), (.ref r0)])) rfl rfl (hb hby d2_48)
  have E_r0_12 := E_r0_11.wr W12
  have F_search_r0_12 := F_search_r0_11.other W12 (Or.inr (own_sn172 hw))
  have F_runs_r0_12 := F_runs_r0_11.other W12 (Or.inr (own_sn173 hw))
  have F_numbers_r0_12 := F_numbers_r0_11.other W12 (Or.inr (own_sn174 hw))
  have F_elements_r0_12 := F_elements_r0_11.other W12 (Or.inr (own_sn175 hw))
  have F_foundIn_r0_12 := F_foundIn_r0_11.other W12 (Or.inr (own_sn176 hw))
  have F_next_r0_12 := F_next_r0_11.other W12 (Or.inr (own_sn177 hw))
  have F_bucketShift_r0_12 := F_bucketShift_r0_11.other W12 (Or.inr (own_sn178 hw))
  have F_bucketStart_r0_12 := F_bucketStart_r0_11.other W12 (Or.inr (own_sn179 hw))
  have F_foundCount_r0_12 := F_foundCount_r0_11.other W12 (Or.inr (own_sn180 hw))
  have F_firstOnly_r0_12 := F_firstOnly_r0_11.other W12 (Or.inr (own_sn181 hw))
  have F_forRuns_r0_12 := F_forRuns_r0_11.other W12 (Or.inr (own_sn182 hw))
  have F_runsLength_r0_12 := F_runsLength_r0_11.other W12 (Or.inr (own_sn183 hw))
  have A_r1_12 := A_r1_11.other W12 (Ne.symm (own_ne_arf E_r0_11 (hw _ (List.mem_of_getElem? (i := 5) rfl)) A_r1_11))
  have A_b3_12 := A_b3_11.other W12 (Ne.symm ne_r0_b3)
  have A_b7_12 := A_b7_11.other W12 (Ne.symm ne_r0_b7)
  have A_b9_12 := A_b9_11.other W12 (Ne.symm ne_r0_b9)
  have A_b11_12 := A_b11_11.other W12 (Ne.symm ne_r0_b11)
  have K12 := K11.wr W12 (Or.inl (List.mem_of_getElem? (i := 0) rfl))
  have N12 := Fr.snoc X12 N10 ge_r0
  have Z12 : n0 ≤ h12.size := Nat.le_trans Z11 (Keep.of_wr W12).1
  have F_found_r0_12 := F_found_r0_11.same W12
  refine own_go (fun tg k => st12 tg k) ?_
  show own_Fin _ _ _ _ _ _ _ (T12.setTop (mkF m 51 #[.val (.ref r0), .val (.ref r1), .val (.ref r2)] []))
  refine own_go (fun _ k => XS.aloadN X12.here hx rfl (hb hby d2_51) rfl rfl k) ?_
  refine own_go (fun _ k => XS.aloadN X12.here hx rfl (hb hby d2_52) rfl rfl k) ?_
  obtain ⟨_, _, ⟨T13, L13, k13, n13⟩, -, X13, ⟨Lc13, hQ13, l13, y13, z13⟩, st13⟩ := Jvm.LawKit.callS X12 hx (y := (⟨"com/example/reachability/reachability/CandidateList", "bucketShift", "([I)I"⟩ : MethodName)) hown (mvT hZ (hw _ (List.mem_of_getElem? (i := 28) rfl))) (mvT hZ (hw _ (List.mem_of_getElem? (i := 29) rfl))) (mvT hZ (hw _ (List.mem_of_getElem? (i := 6) rfl))) (mvT hZ (hw _ (List.mem_of_getElem? (i := 30) rfl))) (by decide) (backOf (W := 1) (rm4 l Z a0 hw [] r1 xg h12 n0 Z12 A_r1_12 (own_srt1 hp)) hZ (hw _ (List.mem_of_getElem? (i := 30) rfl)) (hw _ (List.mem_of_getElem? (i := 6) rfl)) (by decide) (by decide)) (g := (mkF m 53 #[.val (.ref r0), .val (.ref r1), .val (.ref r2)] [(.ref r1), (.ref r0)])) rfl (by rw [hml]; rfl) (argsL := [(.ref r1)]) (rest := [(.ref r0)]) (lenOf own_pd184 rfl) rfl (by show 2 * 0 + _ ≤ _; exact Nat.le_of_eq rfl) (hb hby d2_53) (fun _ _ => ⟨rfl, e12, (by decide : 4 + 0 ≤ _), (by decide : 17 + 0 ≤ _)⟩)
  dsimp only [Pt.U, Pt.locs, Pt.cells, Pt.slots] at X13 l13 y13 z13 st13 hQ13
  replace y13 : 4 = k13 := y13.symm
  replace z13 : 17 = n13 := z13.symm
  subst y13 z13
  obtain ⟨rfl, N13q, e13⟩ := hQ13
  have N13 : Fr n0 L13 := by rw [l13]; exact Fr.app N12 N13q
  refine own_go (fun tg k => st13 tg k) ?_
  show own_Fin _ _ _ _ _ _ _ (T13.setTop (mkF m 56 #[.val (.ref r0), .val (.ref r1), .val (.ref r2)] [(.int (own_f4 xg)), (.ref r0)]))
  obtain ⟨T14, h14, X14, e14, W14, st14⟩ := putF X13 hx hZ hown (host := "") (Or.inl (hw _ (List.mem_of_getElem? (i := 35) rfl))) Via.refl e13 F_bucketShift_r0_12 E_r0_12 (Or.inr ⟨(hw _ (List.mem_of_getElem? (i := 36) rfl)), rfl, hnm⟩) (hw _ (List.mem_of_getElem? (i := 5) rfl)) (ty := .int) (by decide) rfl rfl (g := (mkF m 56 #[.val (.ref r0), .val (.ref r1), .val (.ref r2)] [(.int (own_f4 xg)), (.ref r0)])) rfl rfl (hb hby d2_56)
  have E_r0_14 := E_r0_12.wr W14
  have F_search_r0_14 := F_search_r0_12.other W14 (Or.inr (own_sn185 hw))
  have F_runs_r0_14 := F_runs_r0_12.other W14 (Or.inr (own_sn186 hw))
  have F_numbers_r0_14 := F_numbers_r0_12.other W14 (Or.inr (own_sn187 hw))
  have F_elements_r0_14 := F_elements_r0_12.other W14 (Or.inr (own_sn188 hw))
  have F_foundIn_r0_14 := F_foundIn_r0_12.other W14 (Or.inr (own_sn189 hw))
  have F_next_r0_14 := F_next_r0_12.other W14 (Or.inr (own_sn190 hw))
  have F_found_r0_14 := F_found_r0_12.other W14 (Or.inr (own_sn191 hw))
  have F_bucketStart_r0_14 := F_bucketStart_r0_12.other W14 (Or.inr (own_sn192 hw))
  have F_foundCount_r0_14 := F_foundCount_r0_12.other W14 (Or.inr (own_sn193 hw))
  have F_firstOnly_r0_14 := F_firstOnly_r0_12.other W14 (Or.inr (own_sn194 hw))
  have F_forRuns_r0_14 := F_forRuns_r0_12.other W14 (Or.inr (own_sn195 hw))
  have F_runsLength_r0_14 := F_runsLength_r0_12.other W14 (Or.inr (own_sn196 hw))
  have A_r1_14 := A_r1_12.other W14 (Ne.symm (own_ne_arf E_r0_12 (hw _ (List.mem_of_getElem? (i := 5) rfl)) A_r1_12))
  have A_b3_14 := A_b3_12.other W14 (Ne.symm ne_r0_b3)
  have A_b7_14 := A_b7_12.other W14 (Ne.symm ne_r0_b7)
  have A_b9_14 := A_b9_12.other W14 (Ne.symm ne_r0_b9)
  have A_b11_14 := A_b11_12.other W14 (Ne.symm ne_r0_b11)
  have K14 := K12.wr W14 (Or.inl (List.mem_of_getElem? (i := 0) rfl))
  have N14 := Fr.snoc X14 N13 ge_r0
  have Z14 : n0 ≤ h14.size := Nat.le_trans Z12 (Keep.of_wr W14).1
  have F_bucketShift_r0_14 := F_bucketShift_r0_12.same W14
  refine own_go (fun tg k => st14 tg k) ?_
  show own_Fin _ _ _ _ _ _ _ (T14.setTop (mkF m 59 #[.val (.ref r0), .val (.ref r1), .val (.ref r2)] []))
  refine own_go (fun _ k => XS.aloadN X14.here hx rfl (hb hby d2_59) rfl rfl k) ?_
  refine own_go (fun _ k => XS.aloadN X14.here hx rfl (hb hby d2_60) rfl rfl k) ?_
  refine own_go (fun _ k => XS.aloadN X14.here hx rfl (hb hby d2_61) rfl rfl k) ?_
  obtain ⟨T15, X15, e15, st15⟩ := getF X14 hx hZ hown (host := "") (Or.inl (hw _ (List.mem_of_getElem? (i := 35) rfl))) Via.refl e14 F_bucketShift_r0_14 (g := (mkF m 62 #[.val (.ref r0), .val (.ref r1), .val (.ref r2)] [(.ref r0), (.ref r1), (.ref r0)])) rfl rfl (hb hby d2_62)
  refine own_go (fun tg k => st15 tg k) ?_
  show own_Fin _ _ _ _ _ _ _ (T15.setTop (mkF m 65 #[.val (.ref r0), .val (.ref r1), .val (.ref r2)] [(.int (own_f4 xg)), (.ref r1), (.ref r0)]))
  obtain ⟨_, _, ⟨T16, L16, k16, n16⟩, -, X16, ⟨Lc16, hQ16, l16, y16, z16⟩, st16⟩ := Jvm.LawKit.callS X15 hx (y := (⟨"com/example/reachability/reachability/CandidateList", "bucketStarts", "([II)[I"⟩ : MethodName)) hown (mvT hZ (hw _ (List.mem_of_getElem? (i := 37) rfl))) (mvT hZ (hw _ (List.mem_of_getElem? (i := 38) rfl))) (mvT hZ (hw _ (List.mem_of_getElem? (i := 6) rfl))) (mvT hZ (hw _ (List.mem_of_getElem? (i := 39) rfl))) (by decide) (backOf (W := 1) (rm6 l Z a0 hw [] r1 (own_f4 xg) xg h14 n0 Z14 A_r1_14 (own_srt2 hp)) hZ (hw _ (List.mem_of_getElem? (i := 39) rfl)) (hw _ (List.mem_of_getElem? (i := 6) rfl)) (by decide) (by decide)) (g := (mkF m 65 #[.val (.ref r0), .val (.ref r1), .val (.ref r2)] [(.int (own_f4 xg)), (.ref r1), (.ref r0)])) rfl (by rw [hml]; rfl) (argsL := [(.ref r1), (.int (own_f4 xg))]) (rest := [(.ref r0)]) (lenOf own_pd197 rfl) rfl (by show 2 * 0 + _ ≤ _; exact Nat.le_of_eq rfl) (hb hby d2_65) (fun _ _ => ⟨rfl, e15, (by decide : 4 + 1 ≤ _), (by decide : 17 + 4 ≤ _)⟩)
  dsimp only [Pt.U, Pt.locs, Pt.cells, Pt.slots] at X16 l16 y16 z16 st16 hQ16
  replace y16 : 5 = k16 := y16.symm
  replace z16 : 21 = n16 := z16.symm
  subst y16 z16
  obtain ⟨b16rb, gB16, rfl, N16q, Kq16, szq_b16rb, A_b16rb_16, Pq16_1⟩ := hQ16
  have N16 : Fr n0 L16 := by rw [l16]; exact Fr.app N14 N16q
  have ne_r0_b16rb : r0 ≠ b16rb := Nat.ne_of_lt (Nat.lt_of_lt_of_le E_r0_14.lt szq_b16rb)
  have ne_r1_b16rb : r1 ≠ b16rb := Nat.ne_of_lt (Nat.lt_of_lt_of_le A_r1_14.lt szq_b16rb)
  have ne_b3_b16rb : b3 ≠ b16rb := Nat.ne_of_lt (Nat.lt_of_lt_of_le A_b3_14.lt szq_b16rb)
  have ne_b7_b16rb : b7 ≠ b16rb := Nat.ne_of_lt (Nat.lt_of_lt_of_le A_b7_14.lt szq_b16rb)
  have ne_b9_b16rb : b9 ≠ b16rb := Nat.ne_of_lt (Nat.lt_of_lt_of_le A_b9_14.lt szq_b16rb)
  have ne_b11_b16rb : b11 ≠ b16rb := Nat.ne_of_lt (Nat.lt_of_lt_of_le A_b11_14.lt szq_b16rb)
  have ge_b16rb : n0 ≤ b16rb := Nat.le_trans Z14 szq_b16rb
  have sz_b16rb : h0.size ≤ b16rb := Nat.le_trans K14.1 szq_b16rb
  have E_r0_16 := E_r0_14.keep Kq16
  have F_search_r0_16 := F_search_r0_14.keep Kq16 nin0
  have F_runs_r0_16 := F_runs_r0_14.keep Kq16 nin0
  have F_numbers_r0_16 := F_numbers_r0_14.keep Kq16 nin0
  have F_elements_r0_16 := F_elements_r0_14.keep Kq16 nin0
  have F_foundIn_r0_16 := F_foundIn_r0_14.keep Kq16 nin0
  have F_next_r0_16 := F_next_r0_14.keep Kq16 nin0
  have F_found_r0_16 := F_found_r0_14.keep Kq16 nin0
  have F_bucketShift_r0_16 := F_bucketShift_r0_14.keep Kq16 nin0
  have F_bucketStart_r0_16 := F_bucketStart_r0_14.keep Kq16 nin0
  have F_foundCount_r0_16 := F_foundCount_r0_14.keep Kq16 nin0
  have F_firstOnly_r0_16 := F_firstOnly_r0_14.keep Kq16 nin0
  have F_forRuns_r0_16 := F_forRuns_r0_14.keep Kq16 nin0
  have F_runsLength_r0_16 := F_runsLength_r0_14.keep Kq16 nin0
  have A_r1_16 := A_r1_14.keep Kq16 nin0
  have A_b3_16 := A_b3_14.keep Kq16 nin0
  have A_b7_16 := A_b7_14.keep Kq16 nin0
  have A_b9_16 := A_b9_14.keep Kq16 nin0
  have A_b11_16 := A_b11_14.keep Kq16 nin0
  have K16 := Keep.trans K14 Kq16 all0
  have Z16 : n0 ≤ T16.heap.size := Nat.le_trans Z14 Kq16.1
  refine own_go (fun tg k => st16 tg k) ?_
  show own_Fin _ _ _ _ _ _ _ (T16.setTop (mkF m 68 #[.val (.ref r0), .val (.ref r1), .val (.ref r2)] [(.ref b16rb), (.ref r0)]))
  obtain ⟨T17, h17, X17, e17, W17, st17⟩ := putF X16 hx hZ hown (host := "") (Or.inl (hw _ (List.mem_of_getElem? (i := 40) rfl))) Via.refl rfl F_bucketStart_r0_16 E_r0_16 (Or.inr ⟨(hw _ (List.mem_of_getElem? (i := 41) rfl)), rfl, hnm⟩) (hw _ (List.mem_of_getElem? (i := 5) rfl)) (ty := (.array .int)) (by decide) rfl rfl (g := (mkF m 68 #[.val (.ref r0), .val (.ref r1), .val (.ref r2)] [(.ref b16rb), (.ref r0)])) rfl rfl (hb hby d2_68)
  have E_r0_17 := E_r0_16.wr W17
  have F_search_r0_17 := F_search_r0_16.other W17 (Or.inr (own_sn198 hw))
  have F_runs_r0_17 := F_runs_r0_16.other W17 (Or.inr (own_sn199 hw))
  have F_numbers_r0_17 := F_numbers_r0_16.other W17 (Or.inr (own_sn200 hw))
  have F_elements_r0_17 := F_elements_r0_16.other W17 (Or.inr (own_sn201 hw))
  have F_foundIn_r0_17 := F_foundIn_r0_16.other W17 (Or.inr (own_sn202 hw))
  have F_next_r0_17 := F_next_r0_16.other W17 (Or.inr (own_sn203 hw))
  have F_found_r0_17 := F_found_r0_16.other W17 (Or.inr (own_sn204 hw))
  have F_bucketShift_r0_17 := F_bucketShift_r0_16.other W17 (Or.inr (own_sn205 hw))
  have F_foundCount_r0_17 := F_foundCount_r0_16.other W17 (Or.inr (own_sn206 hw))
  have F_firstOnly_r0_17 := F_firstOnly_r0_16.other W17 (Or.inr (own_sn207 hw))
  have F_forRuns_r0_17 := F_forRuns_r0_16.other W17 (Or.inr (own_sn208 hw))
  have F_runsLength_r0_17 := F_runsLength_r0_16.other W17 (Or.inr (own_sn209 hw))
  have A_r1_17 := A_r1_16.other W17 (Ne.symm (own_ne_arf E_r0_16 (hw _ (List.mem_of_getElem? (i := 5) rfl)) A_r1_16))
  have A_b3_17 := A_b3_16.other W17 (Ne.symm ne_r0_b3)
  have A_b7_17 := A_b7_16.other W17 (Ne.symm ne_r0_b7)
  have A_b9_17 := A_b9_16.other W17 (Ne.symm ne_r0_b9)
  have A_b11_17 := A_b11_16.other W17 (Ne.symm ne_r0_b11)
  have A_b16rb_17 := A_b16rb_16.other W17 (Ne.symm ne_r0_b16rb)
  have K17 := K16.wr W17 (Or.inl (List.mem_of_getElem? (i := 0) rfl))
  have N17 := Fr.snoc X17 N16 ge_r0
  have Z17 : n0 ≤ h17.size := Nat.le_trans Z16 (Keep.of_wr W17).1
  have F_bucketStart_r0_17 := F_bucketStart_r0_16.same W17
  refine own_go (fun tg k => st17 tg k) ?_
  show own_Fin _ _ _ _ _ _ _ (T17.setTop (mkF m 71 #[.val (.ref r0), .val (.ref r1), .val (.ref r2)] []))
  refine own_retV X17 hx hlk Bd.returns (hb hby d2_71) (Nat.le_of_ble_eq_true rfl) (Nat.le_of_ble_eq_true rfl) ?_
  rw [e17]
  refine ⟨b7, b9, b11, b16rb, gB16, rfl, N17, K17, sz_b7, sz_b9, sz_b11, sz_b16rb, E_r0_17, ?_, ?_, ?_, ?_, ?_, ?_, ?_, ?_, ?_, ?_, ?_, ?_, ?_, ?_, ?_, ?_, ne_b7_b9, ne_b7_b11, ne_b7_b16rb, ne_b9_b11, ne_b9_b16rb, ne_b11_b16rb, ?_⟩
  · (exact F_search_r0_17)
  · (exact F_numbers_r0_17)
  · (exact F_elements_r0_17)
  · (exact F_foundIn_r0_17)
  · (exact F_next_r0_17)
  · (exact F_found_r0_17)
  · (exact F_bucketShift_r0_17)
  · (exact F_bucketStart_r0_17)
  · (exact F_foundCount_r0_17)
  · (exact F_firstOnly_r0_17)
  · (exact F_forRuns_r0_17)
  · (exact F_runsLength_r0_17)
  · (exact A_b7_17)
  · (exact A_b9_17)
  · (exact A_b11_17)
  · (exact A_b16rb_17)
  · (exact Pq16_1)
def own_fal (g : Nat → Int32) (v : Int32) : Nat → Int32 → Int32 → Int32
  | 0, lo, _ => lo
  | k + 1, lo, hi => if lo < hi then (if g (own_iushr (lo + hi) (1 : Int32)).toNatClampNeg < v then own_fal g v k ((own_iushr (lo + hi) (1 : Int32)) + (1 : Int32)) hi else own_fal g v k lo (own_iushr (lo + hi) (1 : Int32))) else lo
def own_falE (g : Nat → Int32) (v : Int32) (lo hi : Int32) : Int32 := own_fal g v (hi.toInt - lo.toInt).toNat lo hi
theorem own_midv {lo hi : Int32} (h0 : ¬ lo < (0 : Int32)) (h : lo < hi) : (own_iushr (lo + hi) (1 : Int32)).toInt = (lo.toInt + hi.toInt) / 2 ∧ ((own_iushr (lo + hi) (1 : Int32)) + (1 : Int32)).toInt = (lo.toInt + hi.toInt) / 2 + 1 := by
  rw [Int32.lt_iff_toInt_lt, show (0 : Int32).toInt = 0 from by decide] at h0
  rw [Int32.lt_iff_toInt_lt] at h
  have a := c_iadd lo hi
  have b : (own_iushr (lo + hi) (1 : Int32)).toInt = ((lo + hi).toInt % 4294967296) / (2 ^ 1 : Nat) := c_iushr (lo + hi) 1 1 (by decide) (by decide)
  rw [show ((2 ^ 1 : Nat) : Int) = 2 from by decide] at b
  have r1 := rng32 lo; have r2 := rng32 hi; have r3 := rng32 (lo + hi)
  have c := c_iadd (own_iushr (lo + hi) (1 : Int32)) 1
  have r4 := rng32 (own_iushr (lo + hi) (1 : Int32) + 1)
  rw [show (1 : Int32).toInt = 1 from by decide] at c
  omega
theorem own_fuel (g : Nat → Int32) (v : Int32) : ∀ (n k : Nat) (lo hi : Int32), ¬ lo < (0 : Int32) → (hi.toInt - lo.toInt).toNat ≤ n → n ≤ k → own_fal g v k lo hi = own_fal g v n lo hi := by
  intro n
  induction n with
  | zero =>
    intro k lo hi h0 h1 h2
    have : ¬ lo < hi := by rw [Int32.lt_iff_toInt_lt]; omega
    cases k with
    | zero => rfl
    | succ k => show (if lo < hi then _ else lo) = lo; rw [if_neg this]
  | succ n ih =>
    intro k lo hi h0 h1 h2
    obtain ⟨k, rfl⟩ : ∃ j, k = j + 1 := ⟨k - 1, by omega⟩
    show (if lo < hi then _ else lo) = (if lo < hi then _ else lo)
    by_cases h : lo < hi
    · rw [if_pos h, if_pos h]
      obtain ⟨m1, m2⟩ := own_midv h0 h
      have h0' := h0
      rw [Int32.lt_iff_toInt_lt, show (0 : Int32).toInt = 0 from by decide] at h0'
      have h' := h
      rw [Int32.lt_iff_toInt_lt] at h'
      rw [ih k _ hi (by rw [Int32.lt_iff_toInt_lt, show (0 : Int32).toInt = 0 from by decide]; omega) (by omega) (by omega), ih k lo _ h0 (by omega) (by omega)]
    · rw [if_neg h, if_neg h]
theorem own_fal0 {g : Nat → Int32} {v lo hi : Int32} (h : ¬ lo < hi) : own_falE g v lo hi = lo := by
  unfold own_falE
  cases (hi.toInt - lo.toInt).toNat with
  | zero => rfl
  | succ k => show (if lo < hi then _ else lo) = lo; rw [if_neg h]
theorem own_fal1 {g : Nat → Int32} {v lo hi : Int32} (h0 : ¬ lo < (0 : Int32)) (h : lo < hi) :
    own_falE g v lo hi = if g (own_iushr (lo + hi) (1 : Int32)).toNatClampNeg < v then own_falE g v ((own_iushr (lo + hi) (1 : Int32)) + (1 : Int32)) hi else own_falE g v lo (own_iushr (lo + hi) (1 : Int32)) := by
  obtain ⟨m1, m2⟩ := own_midv h0 h
  have h0' := h0
  rw [Int32.lt_iff_toInt_lt, show (0 : Int32).toInt = 0 from by decide] at h0'
  have h' := h
  rw [Int32.lt_iff_toInt_lt] at h'
  unfold own_falE
  obtain ⟨n, e⟩ : ∃ n, (hi.toInt - lo.toInt).toNat = n + 1 := ⟨(hi.toInt - lo.toInt).toNat - 1, by omega⟩
  rw [e]
  show (if lo < hi then _ else lo) = _
  rw [if_pos h, own_fuel g v (hi.toInt - ((own_iushr (lo + hi) (1 : Int32)) + (1 : Int32)).toInt).toNat n _ hi (by rw [Int32.lt_iff_toInt_lt, show (0 : Int32).toInt = 0 from by decide]; omega) (by omega) (by omega),
    own_fuel g v ((own_iushr (lo + hi) (1 : Int32)).toInt - lo.toInt).toNat n lo _ h0 (by omega) (by omega)]
theorem own_mid {lo hi : Int32} (h0 : ¬ lo < (0 : Int32)) (h : lo < hi) : ¬ (own_iushr (lo + hi) (1 : Int32)) < 0 ∧ (own_iushr (lo + hi) (1 : Int32)) < hi ∧ (hi.toInt - ((own_iushr (lo + hi) (1 : Int32)) + (1 : Int32)).toInt).toNat < (hi.toInt - lo.toInt).toNat ∧ ((own_iushr (lo + hi) (1 : Int32)).toInt - lo.toInt).toNat < (hi.toInt - lo.toInt).toNat := by
  obtain ⟨m1, m2⟩ := own_midv h0 h
  rw [Int32.lt_iff_toInt_lt, show (0 : Int32).toInt = 0 from by decide] at h0
  rw [Int32.lt_iff_toInt_lt] at h
  simp only [Int32.lt_iff_toInt_lt, show (0 : Int32).toInt = 0 from by decide]
  omega
theorem own_fb1 {lo hi n : Int32} (q : ¬ lo < (0 : Int32) ∧ hi ≤ n) (h : lo < hi) : ¬ ((own_iushr (lo + hi) (1 : Int32)) + (1 : Int32)) < (0 : Int32) ∧ hi ≤ n := by
  obtain ⟨m1, m2⟩ := own_midv q.1 h
  refine ⟨?_, q.2⟩
  have h0 := q.1
  rw [Int32.lt_iff_toInt_lt, show (0 : Int32).toInt = 0 from by decide] at h0 ⊢
  rw [Int32.lt_iff_toInt_lt] at h
  omega
theorem own_fb2 {lo hi n : Int32} (q : ¬ lo < (0 : Int32) ∧ hi ≤ n) (h : lo < hi) : ¬ lo < (0 : Int32) ∧ (own_iushr (lo + hi) (1 : Int32)) ≤ n := by
  have m := (own_mid q.1 h).2.1
  have q2 := q.2
  refine ⟨q.1, ?_⟩
  rw [Int32.lt_iff_toInt_lt] at m
  rw [Int32.le_iff_toInt_le] at q2 ⊢
  omega
theorem own_fix {lo hi n : Int32} (q : ¬ lo < (0 : Int32) ∧ hi ≤ n) (h : lo < hi) : ¬ (own_iushr (lo + hi) (1 : Int32)) < 0 ∧ (own_iushr (lo + hi) (1 : Int32)) < n := by
  have m := own_mid q.1 h
  have q2 := q.2
  refine ⟨m.1, ?_⟩
  have m2 := m.2.1
  rw [Int32.lt_iff_toInt_lt] at m2 ⊢
  rw [Int32.le_iff_toInt_le] at q2
  omega
theorem own_ltix {i a b n : Int32} (q : ¬ a < (0 : Int32) ∧ b ≤ n) (h1 : ¬ i < a) (h2 : i < b) : ¬ i < 0 ∧ i < n := by
  simp only [Int32.lt_iff_toInt_lt, Int32.le_iff_toInt_le] at *
  omega

theorem d11_0 : decode prog_2_method_20_code 0 = .ok (.iload_n 1, 1) := by decide +kernel
theorem d11_1 : decode prog_2_method_20_code 1 = .ok (.istore 4, 2) := by decide +kernel
theorem d11_3 : decode prog_2_method_20_code 3 = .ok (.iload_n 2, 1) := by decide +kernel
theorem d11_4 : decode prog_2_method_20_code 4 = .ok (.istore 5, 2) := by decide +kernel
theorem d11_6 : decode prog_2_method_20_code 6 = .ok (.iload 4, 2) := by decide +kernel
theorem d11_8 : decode prog_2_method_20_code 8 = .ok (.iload 5, 2) := by decide +kernel
theorem d11_10 : decode prog_2_method_20_code 10 = .ok (.if_icmp .ge 36, 3) := by decide +kernel
theorem d11_13 : decode prog_2_method_20_code 13 = .ok (.iload 4, 2) := by decide +kernel
theorem d11_15 : decode prog_2_method_20_code 15 = .ok (.iload 5, 2) := by decide +kernel
theorem d11_17 : decode prog_2_method_20_code 17 = .ok (.iadd, 1) := by decide +kernel
theorem d11_18 : decode prog_2_method_20_code 18 = .ok (.iconst 1, 1) := by decide +kernel
theorem d11_19 : decode prog_2_method_20_code 19 = .ok (.iushr, 1) := by decide +kernel
theorem d11_20 : decode prog_2_method_20_code 20 = .ok (.istore 6, 2) := by decide +kernel
theorem d11_22 : decode prog_2_method_20_code 22 = .ok (.aload_n 0, 1) := by decide +kernel
theorem d11_23 : decode prog_2_method_20_code 23 = .ok (.iload 6, 2) := by decide +kernel
theorem d11_25 : decode prog_2_method_20_code 25 = .ok (.iaload, 1) := by decide +kernel
theorem d11_26 : decode prog_2_method_20_code 26 = .ok (.iload_n 3, 1) := by decide +kernel
theorem d11_27 : decode prog_2_method_20_code 27 = .ok (.if_icmp .ge 12, 3) := by decide +kernel
theorem d11_30 : decode prog_2_method_20_code 30 = .ok (.iload 6, 2) := by decide +kernel
theorem d11_32 : decode prog_2_method_20_code 32 = .ok (.iconst 1, 1) := by decide +kernel
theorem d11_33 : decode prog_2_method_20_code 33 = .ok (.iadd, 1) := by decide +kernel
theorem d11_34 : decode prog_2_method_20_code 34 = .ok (.istore 4, 2) := by decide +kernel
theorem d11_36 : decode prog_2_method_20_code 36 = .ok (.goto 7, 3) := by decide +kernel
theorem d11_39 : decode prog_2_method_20_code 39 = .ok (.iload 6, 2) := by decide +kernel
theorem d11_41 : decode prog_2_method_20_code 41 = .ok (.istore 5, 2) := by decide +kernel
theorem d11_43 : decode prog_2_method_20_code 43 = .ok (.goto (-37), 3) := by decide +kernel
theorem d11_46 : decode prog_2_method_20_code 46 = .ok (.iload 4, 2) := by decide +kernel
theorem d11_48 : decode prog_2_method_20_code 48 = .ok (.ireturn, 1) := by decide +kernel
theorem pn_11 : plainName "com/example/reachability/reachability/CandidateList" = true := by first | (simp [plainName, overriddenIn]; done) | decide +kernel
theorem ef_11 (m : MethodId) (r0 : Addr) (p1 : Int32) (p2 : Int32) (p3 : Int32) : entryFrame m #[(.ref r0), (.int p1), (.int p2), (.int p3)] 7 = mkF m 0 #[.val (.ref r0), .val (.int p1), .val (.int p2), .val (.int p3), .unset, .unset, .unset] [] := by first | (simp [entryFrame, mkF, argsToLocals, Value.category]; done) | rfl
def rm11_room : Room := { frames := 0, cells := 0, slots := 0, locals := 0 }
def Qrm11 (Z : State) (r0 : Addr) (p1 : Int32) (p2 : Int32) (p3 : Int32) (xg : Nat → Int32) (h0 : Heap) (n0 : Nat) (v : Option Value) (h : Heap) (L : List Loc) : Prop := v = some (.int (own_falE xg p3 p1 p2)) ∧ Fr n0 L ∧ h = h0
set_option maxRecDepth 65536 in
set_option maxHeartbeats 40000000 in
theorem rm11 (l : Launch) (Z : State) (a0 : Array Value) (hw : ∀ d ∈ tables_1, d.before a0 Z = true) (ws : List Jvm.Cond) (r0 : Addr) (p1 : Int32) (p2 : Int32) (p3 : Int32) (xg : Nat → Int32) (h0 : Heap) (n0 : Nat) (Z0 : n0 ≤ h0.size) (A_r0_0 : own_Arf Z h0 r0 .int (3 : Int32) (fun i => .int (xg i))) (hp : ¬ p1 < (0 : Int32) ∧ p2 ≤ (3 : Int32)) :
    MetFree l (⟨"com/example/reachability/reachability/CandidateList", "firstAtLeast", "([IIII)I"⟩ : MethodName) (head1 (Jvm.Cond.code (⟨"com/example/reachability/reachability/CandidateList", "firstAtLeast", "([IIII)I"⟩ : MethodName) prog_2_method_20_code 7 (some .int) :: ws) rm11_room) (fun a U => a = #[(.ref r0), (.int p1), (.int p2), (.int p3)] ∧ Z.Warmed39 U.vm ∧ U.heap = h0) (fun _ _ _ _ _ => True) (fun _ U o U' => ∃ v L, o = .returned v ∧ Qrm11 Z r0 p1 p2 p3 xg h0 n0 v U'.heap L ∧ FrameEnd U o U' L rm11_room.cells rm11_room.slots) := by
  refine MetFree.of_bodySF (plainFor_of_name pn_11) hisR ?_
  intro p e s m args below meth c s₁ Bd hml0 hP hK
  obtain ⟨rfl, hZ, hh⟩ := hP
  have hx := Bd.exec
  have hby := Bd.bytes
  have hml : c.maxLocals = 7 := hml0
  have hown : s.vm.findClass "com/example/reachability/reachability/CandidateList" = some m.cls := findClass_of_methodNamed Bd.named
  have hnm := (name_of_methodNamed Bd.named Bd.method).1
  have hlk : meth.locks = false := BodyLoose.notSynchronized Bd
  have X0 : Stand p l e rm11_room s m #[(.ref r0), (.int p1), (.int p2), (.int p3)] below meth c s₁ [] 0 0 := Stand.of_body Bd
  have e0 : s₁.heap = h0 := by rw [← hh, Bd.state]; rfl
  have N0 := Fr.nil n0
  show own_Fin p.tables e below s (Qrm11 Z r0 p1 p2 p3 xg h0 n0) rm11_room.cells rm11_room.slots (s₁.setTop (entryFrame m #[(.ref r0), (.int p1), (.int p2), (.int p3)] 7))
  rw [ef_11]
  show own_Fin _ _ _ _ _ _ _ (s₁.setTop (mkF m 0 #[.val (.ref r0), .val (.int p1), .val (.int p2), .val (.int p3), .unset, .unset, .unset] []))
  refine own_go (fun _ k => XS.iloadN X0.here hx rfl (hb hby d11_0) rfl k) ?_
  show own_Fin _ _ _ _ _ _ _ (s₁.setTop (mkF m 1 #[.val (.ref r0), .val (.int p1), .val (.int p2), .val (.int p3), .unset, .unset, .unset] [(.int p1)]))
  refine own_go (fun _ k => XS.istore X0.here hx rfl (hb hby d11_1) rfl (l' := #[.val (.ref r0), .val (.int p1), .val (.int p2), .val (.int p3), .val (.int p1), .unset, .unset]) rfl k) ?_
  show own_Fin _ _ _ _ _ _ _ (s₁.setTop (mkF m 3 #[.val (.ref r0), .val (.int p1), .val (.int p2), .val (.int p3), .val (.int p1), .unset, .unset] []))
  refine own_go (fun _ k => XS.iloadN X0.here hx rfl (hb hby d11_3) rfl k) ?_
  show own_Fin _ _ _ _ _ _ _ (s₁.setTop (mkF m 4 #[.val (.ref r0), .val (.int p1), .val (.int p2), .val (.int p3), .val (.int p1), .unset, .unset] [(.int p2)]))
  refine own_go (fun _ k => XS.istore X0.here hx rfl (hb hby d11_4) rfl (l' := #[.val (.ref r0), .val (.int p1), .val (.int p2), .val (.int p3), .val (.int p1), .val (.int p2), .unset]) rfl k) ?_
  show own_Fin _ _ _ _ _ _ _ (s₁.setTop (mkF m 6 #[.val (.ref r0), .val (.int p1), .val (.int p2), .val (.int p3), .val (.int p1), .val (.int p2), .unset] []))
  have loopA : ∀ (kA : Nat) (lo : Int32) (hi : Int32) (j6A : Slot) (TAL : State) (LAL : List Loc), kA = (hi.toInt - lo.toInt).toNat → own_falE xg p3 lo hi = own_falE xg p3 p1 p2 → ¬ lo < (0 : Int32) ∧ hi ≤ (3 : Int32) → Stand p l e rm11_room s m #[(.ref r0), (.int p1), (.int p2), (.int p3)] below meth c TAL LAL 0 0 → Fr n0 LAL → TAL.heap = h0 → One j6A → own_Fin p.tables e below s (Qrm11 Z r0 p1 p2 p3 xg h0 n0) rm11_room.cells rm11_room.slots (TAL.setTop (mkF m 6 #[.val (.ref r0), .val (.int p1), .val (.int p2), .val (.int p3), .val (.int lo), .val (.int hi), j6A] [])) := by
    intro kA
    induction kA using Nat.strongRecOn with
    | _ kA ihA =>
      intro lo hi j6A TAL LAL hkA hinv hlo XAL NAL eAL hj6A
      show own_Fin _ _ _ _ _ _ _ (TAL.setTop (mkF m 6 #[.val (.ref r0), .val (.int p1), .val (.int p2), .val (.int p3), .val (.int lo), .val (.int hi), j6A] []))
      refine own_go (fun _ k => XS.iload XAL.here hx rfl (hb hby d11_6) rfl k) ?_
      show own_Fin _ _ _ _ _ _ _ (TAL.setTop (mkF m 8 #[.val (.ref r0), .val (.int p1), .val (.int p2), .val (.int p3), .val (.int lo), .val (.int hi), j6A] [(.int lo)]))
      refine own_go (fun _ k => XS.iload XAL.here hx rfl (hb hby d11_8) rfl k) ?_
      show own_Fin _ _ _ _ _ _ _ (TAL.setTop (mkF m 10 #[.val (.ref r0), .val (.int p1), .val (.int p2), .val (.int p3), .val (.int lo), .val (.int hi), j6A] [(.int hi), (.int lo)]))
      by_cases hc1 : lo < hi
      · refine own_go (fun _ k => XS.icmpNo XAL.here hx rfl (hb hby d11_10) rfl (tlt hc1).2.1 k) ?_
        show own_Fin _ _ _ _ _ _ _ (TAL.setTop (mkF m 13 #[.val (.ref r0), .val (.int p1), .val (.int p2), .val (.int p3), .val (.int lo), .val (.int hi), j6A] []))
        refine own_go (fun _ k => XS.iload XAL.here hx rfl (hb hby d11_13) rfl k) ?_
        show own_Fin _ _ _ _ _ _ _ (TAL.setTop (mkF m 15 #[.val (.ref r0), .val (.int p1), .val (.int p2), .val (.int p3), .val (.int lo), .val (.int hi), j6A] [(.int lo)]))
        refine own_go (fun _ k => XS.iload XAL.here hx rfl (hb hby d11_15) rfl k) ?_
        show own_Fin _ _ _ _ _ _ _ (TAL.setTop (mkF m 17 #[.val (.ref r0), .val (.int p1), .val (.int p2), .val (.int p3), .val (.int lo), .val (.int hi), j6A] [(.int hi), (.int lo)]))
        refine own_go (fun _ k => XS.iadd XAL.here hx rfl (hb hby d11_17) rfl k) ?_
        show own_Fin _ _ _ _ _ _ _ (TAL.setTop (mkF m 18 #[.val (.ref r0), .val (.int p1), .val (.int p2), .val (.int p3), .val (.int lo), .val (.int hi), j6A] [(.int (lo + hi))]))
        refine own_go (fun _ k => XS.iconst XAL.here hx rfl (hb hby d11_18) k) ?_
        show own_Fin _ _ _ _ _ _ _ (TAL.setTop (mkF m 19 #[.val (.ref r0), .val (.int p1), .val (.int p2), .val (.int p3), .val (.int lo), .val (.int hi), j6A] [(.int (1 : Int32)), (.int (lo + hi))]))
        refine own_go (fun _ k => XS.iushr XAL.here hx rfl (hb hby d11_19) rfl k) ?_
        show own_Fin _ _ _ _ _ _ _ (TAL.setTop (mkF m 20 #[.val (.ref r0), .val (.int p1), .val (.int p2), .val (.int p3), .val (.int lo), .val (.int hi), j6A] [(.int (own_iushr (lo + hi) (1 : Int32)))]))
        refine own_go (fun _ k => XS.istoreS XAL.here hx rfl (hb hby d11_20) rfl rfl hj6A k) ?_
        show own_Fin _ _ _ _ _ _ _ (TAL.setTop (mkF m 22 #[.val (.ref r0), .val (.int p1), .val (.int p2), .val (.int p3), .val (.int lo), .val (.int hi), .val (.int (own_iushr (lo + hi) (1 : Int32)))] []))
        refine own_go (fun _ k => XS.aloadN XAL.here hx rfl (hb hby d11_22) rfl rfl k) ?_
        show own_Fin _ _ _ _ _ _ _ (TAL.setTop (mkF m 23 #[.val (.ref r0), .val (.int p1), .val (.int p2), .val (.int p3), .val (.int lo), .val (.int hi), .val (.int (own_iushr (lo + hi) (1 : Int32)))] [(.ref r0)]))
        refine own_go (fun _ k => XS.iload XAL.here hx rfl (hb hby d11_23) rfl k) ?_
        show own_Fin _ _ _ _ _ _ _ (TAL.setTop (mkF m 25 #[.val (.ref r0), .val (.int p1), .val (.int p2), .val (.int p3), .val (.int lo), .val (.int hi), .val (.int (own_iushr (lo + hi) (1 : Int32)))] [(.int (own_iushr (lo + hi) (1 : Int32))), (.ref r0)]))
        refine own_go (fun tg k => own_iaload XAL hx hZ eAL A_r0_0 (j := (own_iushr (lo + hi) (1 : Int32))) (own_fix hlo hc1) (x := (xg (own_iushr (lo + hi) (1 : Int32)).toNatClampNeg)) rfl (g := (mkF m 25 #[.val (.ref r0), .val (.int p1), .val (.int p2), .val (.int p3), .val (.int lo), .val (.int hi), .val (.int (own_iushr (lo + hi) (1 : Int32)))] [(.int (own_iushr (lo + hi) (1 : Int32))), (.ref r0)])) rfl rfl (hb hby d11_25) tg k) ?_
        show own_Fin _ _ _ _ _ _ _ (TAL.setTop (mkF m 26 #[.val (.ref r0), .val (.int p1), .val (.int p2), .val (.int p3), .val (.int lo), .val (.int hi), .val (.int (own_iushr (lo + hi) (1 : Int32)))] [(.int (xg (own_iushr (lo + hi) (1 : Int32)).toNatClampNeg))]))
        refine own_go (fun _ k => XS.iloadN XAL.here hx rfl (hb hby d11_26) rfl k) ?_
        show own_Fin _ _ _ _ _ _ _ (TAL.setTop (mkF m 27 #[.val (.ref r0), .val (.int p1), .val (.int p2), .val (.int p3), .val (.int lo), .val (.int hi), .val (.int (own_iushr (lo + hi) (1 : Int32)))] [(.int p3), (.int (xg (own_iushr (lo + hi) (1 : Int32)).toNatClampNeg))]))
        by_cases hc2 : (xg (own_iushr (lo + hi) (1 : Int32)).toNatClampNeg) < p3
        · refine own_go (fun _ k => XS.icmpNo XAL.here hx rfl (hb hby d11_27) rfl (tlt hc2).2.1 k) ?_
          show own_Fin _ _ _ _ _ _ _ (TAL.setTop (mkF m 30 #[.val (.ref r0), .val (.int p1), .val (.int p2), .val (.int p3), .val (.int lo), .val (.int hi), .val (.int (own_iushr (lo + hi) (1 : Int32)))] []))
          refine own_go (fun _ k => XS.iload XAL.here hx rfl (hb hby d11_30) rfl k) ?_
          show own_Fin _ _ _ _ _ _ _ (TAL.setTop (mkF m 32 #[.val (.ref r0), .val (.int p1), .val (.int p2), .val (.int p3), .val (.int lo), .val (.int hi), .val (.int (own_iushr (lo + hi) (1 : Int32)))] [(.int (own_iushr (lo + hi) (1 : Int32)))]))
          refine own_go (fun _ k => XS.iconst XAL.here hx rfl (hb hby d11_32) k) ?_
          show own_Fin _ _ _ _ _ _ _ (TAL.setTop (mkF m 33 #[.val (.ref r0), .val (.int p1), .val (.int p2), .val (.int p3), .val (.int lo), .val (.int hi), .val (.int (own_iushr (lo + hi) (1 : Int32)))] [(.int (1 : Int32)), (.int (own_iushr (lo + hi) (1 : Int32)))]))
          refine own_go (fun _ k => XS.iadd XAL.here hx rfl (hb hby d11_33) rfl k) ?_
          show own_Fin _ _ _ _ _ _ _ (TAL.setTop (mkF m 34 #[.val (.ref r0), .val (.int p1), .val (.int p2), .val (.int p3), .val (.int lo), .val (.int hi), .val (.int (own_iushr (lo + hi) (1 : Int32)))] [(.int ((own_iushr (lo + hi) (1 : Int32)) + (1 : Int32)))]))
          refine own_go (fun _ k => XS.istore XAL.here hx rfl (hb hby d11_34) rfl (l' := #[.val (.ref r0), .val (.int p1), .val (.int p2), .val (.int p3), .val (.int ((own_iushr (lo + hi) (1 : Int32)) + (1 : Int32))), .val (.int hi), .val (.int (own_iushr (lo + hi) (1 : Int32)))]) rfl k) ?_
          show own_Fin _ _ _ _ _ _ _ (TAL.setTop (mkF m 36 #[.val (.ref r0), .val (.int p1), .val (.int p2), .val (.int p3), .val (.int ((own_iushr (lo + hi) (1 : Int32)) + (1 : Int32))), .val (.int hi), .val (.int (own_iushr (lo + hi) (1 : Int32)))] []))
          refine own_go (fun _ k => XS.goto XAL.here hx rfl (pc0 := 36) (pc' := 43) rfl (hb hby d11_36) (by decide) (by decide) k) ?_
          show own_Fin _ _ _ _ _ _ _ (TAL.setTop (mkF m 43 #[.val (.ref r0), .val (.int p1), .val (.int p2), .val (.int p3), .val (.int ((own_iushr (lo + hi) (1 : Int32)) + (1 : Int32))), .val (.int hi), .val (.int (own_iushr (lo + hi) (1 : Int32)))] []))
          refine own_go (fun _ k => XS.goto XAL.here hx rfl (pc0 := 43) (pc' := 6) rfl (hb hby d11_43) (by decide) (by decide) k) ?_
          show own_Fin _ _ _ _ _ _ _ (TAL.setTop (mkF m 6 #[.val (.ref r0), .val (.int p1), .val (.int p2), .val (.int p3), .val (.int ((own_iushr (lo + hi) (1 : Int32)) + (1 : Int32))), .val (.int hi), .val (.int (own_iushr (lo + hi) (1 : Int32)))] []))
          exact ihA _ (by subst hkA; exact (own_mid hlo.1 hc1).2.2.1) (((own_iushr (lo + hi) (1 : Int32)) + (1 : Int32))) (hi) (.val (.int (own_iushr (lo + hi) (1 : Int32)))) TAL _ rfl (by rw [← hinv, own_fal1 hlo.1 hc1, if_pos hc2]) (own_fb1 hlo hc1) (own_mono XAL (by decide) (by decide)) NAL eAL (One.val rfl)
        · refine own_go (fun _ k => XS.icmpYes XAL.here hx rfl (pc0 := 27) (pc' := 39) rfl (hb hby d11_27) rfl (flt hc2).2.1 (by decide) (by decide) k) ?_
          show own_Fin _ _ _ _ _ _ _ (TAL.setTop (mkF m 39 #[.val (.ref r0), .val (.int p1), .val (.int p2), .val (.int p3), .val (.int lo), .val (.int hi), .val (.int (own_iushr (lo + hi) (1 : Int32)))] []))
          refine own_go (fun _ k => XS.iload XAL.here hx rfl (hb hby d11_39) rfl k) ?_
          show own_Fin _ _ _ _ _ _ _ (TAL.setTop (mkF m 41 #[.val (.ref r0), .val (.int p1), .val (.int p2), .val (.int p3), .val (.int lo), .val (.int hi), .val (.int (own_iushr (lo + hi) (1 : Int32)))] [(.int (own_iushr (lo + hi) (1 : Int32)))]))
          refine own_go (fun _ k => XS.istore XAL.here hx rfl (hb hby d11_41) rfl (l' := #[.val (.ref r0), .val (.int p1), .val (.int p2), .val (.int p3), .val (.int lo), .val (.int (own_iushr (lo + hi) (1 : Int32))), .val (.int (own_iushr (lo + hi) (1 : Int32)))]) rfl k) ?_
          show own_Fin _ _ _ _ _ _ _ (TAL.setTop (mkF m 43 #[.val (.ref r0), .val (.int p1), .val (.int p2), .val (.int p3), .val (.int lo), .val (.int (own_iushr (lo + hi) (1 : Int32))), .val (.int (own_iushr (lo + hi) (1 : Int32)))] []))
          refine own_go (fun _ k => XS.goto XAL.here hx rfl (pc0 := 43) (pc' := 6) rfl (hb hby d11_43) (by decide) (by decide) k) ?_
          show own_Fin _ _ _ _ _ _ _ (TAL.setTop (mkF m 6 #[.val (.ref r0), .val (.int p1), .val (.int p2), .val (.int p3), .val (.int lo), .val (.int (own_iushr (lo + hi) (1 : Int32))), .val (.int (own_iushr (lo + hi) (1 : Int32)))] []))
          exact ihA _ (by subst hkA; exact (own_mid hlo.1 hc1).2.2.2) (lo) ((own_iushr (lo + hi) (1 : Int32))) (.val (.int (own_iushr (lo + hi) (1 : Int32)))) TAL _ rfl (by rw [← hinv, own_fal1 hlo.1 hc1, if_neg hc2]) (own_fb2 hlo hc1) (own_mono XAL (by decide) (by decide)) NAL eAL (One.val rfl)
      · refine own_go (fun _ k => XS.icmpYes XAL.here hx rfl (pc0 := 10) (pc' := 46) rfl (hb hby d11_10) rfl (flt hc1).2.1 (by decide) (by decide) k) ?_
        show own_Fin _ _ _ _ _ _ _ (TAL.setTop (mkF m 46 #[.val (.ref r0), .val (.int p1), .val (.int p2), .val (.int p3), .val (.int lo), .val (.int hi), j6A] []))
        refine own_go (fun _ k => XS.iload XAL.here hx rfl (hb hby d11_46) rfl k) ?_
        show own_Fin _ _ _ _ _ _ _ (TAL.setTop (mkF m 48 #[.val (.ref r0), .val (.int p1), .val (.int p2), .val (.int p3), .val (.int lo), .val (.int hi), j6A] [(.int lo)]))
        refine own_ret XAL hx hlk Bd.returns rfl (Or.inl ⟨rfl, by simp, _, rfl⟩) (hb hby d11_48) (Nat.le_of_ble_eq_true rfl) (Nat.le_of_ble_eq_true rfl) ?_
        refine ⟨?_, NAL, eAL⟩
        · rw [← hinv, own_fal0 hc1]
  exact loopA _ (p1) (p2) (.unset) s₁ _ rfl rfl hp (own_mono X0 (by decide) (by decide)) N0 e0 One.u
def own_okF (p1 sh nB : Int32) (gB : Nat → Int32) : Prop := (own_iushr p1 sh) < (nB - (1 : Int32)) → (¬ (own_iushr p1 sh) < 0 ∧ (own_iushr p1 sh) < nB) ∧ (¬ ((own_iushr p1 sh) + (1 : Int32)) < 0 ∧ ((own_iushr p1 sh) + (1 : Int32)) < nB) ∧ (¬ gB (own_iushr p1 sh).toNatClampNeg < (0 : Int32) ∧ gB ((own_iushr p1 sh) + (1 : Int32)).toNatClampNeg ≤ (3 : Int32))
theorem own_pd281 : parseMethodDescriptor "([IIII)I" = some ⟨[(.array .int), .int, .int, .int], some .int⟩ := by decide +kernel
theorem d10_0 : decode prog_2_method_19_code 0 = .ok (.iload_n 1, 1) := by decide +kernel
theorem d10_1 : decode prog_2_method_19_code 1 = .ok (.aload_n 0, 1) := by decide +kernel
theorem d10_2 : decode prog_2_method_19_code 2 = .ok (.getfield 36, 3) := by decide +kernel
theorem d10_5 : decode prog_2_method_19_code 5 = .ok (.iushr, 1) := by decide +kernel
theorem d10_6 : decode prog_2_method_19_code 6 = .ok (.istore_n 2, 1) := by decide +kernel
theorem d10_7 : decode prog_2_method_19_code 7 = .ok (.iload_n 2, 1) := by decide +kernel
theorem d10_8 : decode prog_2_method_19_code 8 = .ok (.aload_n 0, 1) := by decide +kernel
theorem d10_9 : decode prog_2_method_19_code 9 = .ok (.getfield 42, 3) := by decide +kernel
theorem d10_12 : decode prog_2_method_19_code 12 = .ok (.arraylength, 1) := by decide +kernel
theorem d10_13 : decode prog_2_method_19_code 13 = .ok (.iconst 1, 1) := by decide +kernel
theorem d10_14 : decode prog_2_method_19_code 14 = .ok (.isub, 1) := by decide +kernel
theorem d10_15 : decode prog_2_method_19_code 15 = .ok (.if_icmp .lt 9, 3) := by decide +kernel
theorem d10_18 : decode prog_2_method_19_code 18 = .ok (.aload_n 0, 1) := by decide +kernel
theorem d10_19 : decode prog_2_method_19_code 19 = .ok (.getfield 17, 3) := by decide +kernel
theorem d10_22 : decode prog_2_method_19_code 22 = .ok (.arraylength, 1) := by decide +kernel
theorem d10_23 : decode prog_2_method_19_code 23 = .ok (.ireturn, 1) := by decide +kernel
theorem d10_24 : decode prog_2_method_19_code 24 = .ok (.aload_n 0, 1) := by decide +kernel
theorem d10_25 : decode prog_2_method_19_code 25 = .ok (.getfield 17, 3) := by decide +kernel
theorem d10_28 : decode prog_2_method_19_code 28 = .ok (.aload_n 0, 1) := by decide +kernel
theorem d10_29 : decode prog_2_method_19_code 29 = .ok (.getfield 42, 3) := by decide +kernel
theorem d10_32 : decode prog_2_method_19_code 32 = .ok (.iload_n 2, 1) := by decide +kernel
theorem d10_33 : decode prog_2_method_19_code 33 = .ok (.iaload, 1) := by decide +kernel
theorem d10_34 : decode prog_2_method_19_code 34 = .ok (.aload_n 0, 1) := by decide +kernel
theorem d10_35 : decode prog_2_method_19_code 35 = .ok (.getfield 42, 3) := by decide +kernel
theorem d10_38 : decode prog_2_method_19_code 38 = .ok (.iload_n 2, 1) := by decide +kernel
theorem d10_39 : decode prog_2_method_19_code 39 = .ok (.iconst 1, 1) := by decide +kernel
theorem d10_40 : decode prog_2_method_19_code 40 = .ok (.iadd, 1) := by decide +kernel
theorem d10_41 : decode prog_2_method_19_code 41 = .ok (.iaload, 1) := by decide +kernel
theorem d10_42 : decode prog_2_method_19_code 42 = .ok (.iload_n 1, 1) := by decide +kernel
theorem d10_43 : decode prog_2_method_19_code 43 = .ok (.invokestatic 100, 3) := by decide +kernel
theorem d10_46 : decode prog_2_method_19_code 46 = .ok (.ireturn, 1) := by decide +kernel
theorem pn_10 : plainName "com/example/reachability/reachability/CandidateList" = true := by first | (simp [plainName, overriddenIn]; done) | decide +kernel
theorem ef_10 (m : MethodId) (r0 : Addr) (p1 : Int32) : entryFrame m #[(.ref r0), (.int p1)] 3 = mkF m 0 #[.val (.ref r0), .val (.int p1), .unset] [] := by first | (simp [entryFrame, mkF, argsToLocals, Value.category]; done) | rfl
def rm10_room : Room := { frames := 1, cells := 0, slots := 0, locals := 18 }
def own_f10 (p1 : Int32) (sh : Int32) (nB : Int32) (gB : Nat → Int32) (gN : Nat → Int32) : Int32 := (if (own_iushr p1 sh) < (nB - (1 : Int32)) then ((own_falE gN p1 (gB (own_iushr p1 sh).toNatClampNeg) (gB ((own_iushr p1 sh) + (1 : Int32)).toNatClampNeg))) else ((3 : Int32)))
def Qrm10 (Z : State) (r0 : Addr) (p1 : Int32) (sh : Int32) (xB : Addr) (nB : Int32) (gB : Nat → Int32) (xN : Addr) (gN : Nat → Int32) (h0 : Heap) (n0 : Nat) (v : Option Value) (h : Heap) (L : List Loc) : Prop := v = some (.int (own_f10 p1 sh nB gB gN)) ∧ Fr n0 L ∧ h = h0
theorem own_lf_own_f10_1 {p1 : Int32} {sh : Int32} {nB : Int32} {gB : Nat → Int32} {gN : Nat → Int32} (hc3 : (own_iushr p1 sh) < (nB - (1 : Int32))) : (some (.int (own_falE gN p1 (gB (own_iushr p1 sh).toNatClampNeg) (gB ((own_iushr p1 sh) + (1 : Int32)).toNatClampNeg))) : Option Value) = some (.int (own_f10 p1 sh nB gB gN)) := by
  first | (simp only [own_f10, if_pos hc3]; done) | (simp only [own_f10, if_pos hc3]; rfl) | rfl
theorem own_lf_own_f10_2 {p1 : Int32} {sh : Int32} {nB : Int32} {gB : Nat → Int32} {gN : Nat → Int32} (hc3 : ¬ ((own_iushr p1 sh) < (nB - (1 : Int32)))) : (some (.int (3 : Int32)) : Option Value) = some (.int (own_f10 p1 sh nB gB gN)) := by
  first | (simp only [own_f10, if_neg hc3]; done) | (simp only [own_f10, if_neg hc3]; rfl) | rfl
set_option maxRecDepth 65536 in
set_option maxHeartbeats 40000000 in
theorem rm10 (l : Launch) (Z : State) (a0 : Array Value) (hw : ∀ d ∈ tables_1, d.before a0 Z = true) (ws : List Jvm.Cond) (r0 : Addr) (p1 : Int32) (sh : Int32) (xB : Addr) (nB : Int32) (gB : Nat → Int32) (xN : Addr) (gN : Nat → Int32) (h0 : Heap) (n0 : Nat) (Z0 : n0 ≤ h0.size) (F_bucketShift_r0_0 : Fld Z h0 r0 "com/example/reachability/reachability/CandidateList" "bucketShift" "I" (.int sh)) (F_bucketStart_r0_0 : Fld Z h0 r0 "com/example/reachability/reachability/CandidateList" "bucketStart" "[I" (.ref xB)) (A_xB_0 : own_Arf Z h0 xB .int nB (fun i => .int (gB i))) (F_numbers_r0_0 : Fld Z h0 r0 "com/example/reachability/reachability/CandidateList" "numbers" "[I" (.ref xN)) (A_xN_0 : own_Arf Z h0 xN .int (3 : Int32) (fun i => .int (gN i))) (hp : own_okF p1 sh nB gB) :
    MetFree l (⟨"com/example/reachability/reachability/CandidateList", "first", "(I)I"⟩ : MethodName) (head1 (Jvm.Cond.code (⟨"com/example/reachability/reachability/CandidateList", "first", "(I)I"⟩ : MethodName) prog_2_method_19_code 3 (some .int) :: ws) rm10_room) (fun a U => a = #[(.ref r0), (.int p1)] ∧ Z.Warmed39 U.vm ∧ U.heap = h0) (fun _ _ _ _ _ => True) (fun _ U o U' => ∃ v L, o = .returned v ∧ Qrm10 Z r0 p1 sh xB nB gB xN gN h0 n0 v U'.heap L ∧ FrameEnd U o U' L rm10_room.cells rm10_room.slots) := by
  refine MetFree.of_bodySF (plainFor_of_name pn_10) hisR ?_
  intro p e s m args below meth c s₁ Bd hml0 hP hK
  obtain ⟨rfl, hZ, hh⟩ := hP
  have hx := Bd.exec
  have hby := Bd.bytes
  have hml : c.maxLocals = 3 := hml0
  have hown : s.vm.findClass "com/example/reachability/reachability/CandidateList" = some m.cls := findClass_of_methodNamed Bd.named
  have hnm := (name_of_methodNamed Bd.named Bd.method).1
  have hlk : meth.locks = false := BodyLoose.notSynchronized Bd
  have X0 : Stand p l e rm10_room s m #[(.ref r0), (.int p1)] below meth c s₁ [] 0 0 := Stand.of_body Bd
  have e0 : s₁.heap = h0 := by rw [← hh, Bd.state]; rfl
  have N0 := Fr.nil n0
  show own_Fin p.tables e below s (Qrm10 Z r0 p1 sh xB nB gB xN gN h0 n0) rm10_room.cells rm10_room.slots (s₁.setTop (entryFrame m #[(.ref r0), (.int p1)] 3))
  rw [ef_10]
  show own_Fin _ _ _ _ _ _ _ (s₁.setTop (mkF m 0 #[.val (.ref r0), .val (.int p1), .unset] []))
  refine own_go (fun _ k => XS.iloadN X0.here hx rfl (hb hby d10_0) rfl k) ?_
  show own_Fin _ _ _ _ _ _ _ (s₁.setTop (mkF m 1 #[.val (.ref r0), .val (.int p1), .unset] [(.int p1)]))
  refine own_go (fun _ k => XS.aloadN X0.here hx rfl (hb hby d10_1) rfl rfl k) ?_
  show own_Fin _ _ _ _ _ _ _ (s₁.setTop (mkF m 2 #[.val (.ref r0), .val (.int p1), .unset] [(.ref r0), (.int p1)]))
  obtain ⟨T1, X1, e1, st1⟩ := getF X0 hx hZ hown (host := "") (Or.inl (hw _ (List.mem_of_getElem? (i := 35) rfl))) Via.refl e0 F_bucketShift_r0_0 (g := (mkF m 2 #[.val (.ref r0), .val (.int p1), .unset] [(.ref r0), (.int p1)])) rfl rfl (hb hby d10_2)
  refine own_go (fun tg k => st1 tg k) ?_
  show own_Fin _ _ _ _ _ _ _ (T1.setTop (mkF m 5 #[.val (.ref r0), .val (.int p1), .unset] [(.int sh), (.int p1)]))
  refine own_go (fun _ k => XS.iushr X1.here hx rfl (hb hby d10_5) rfl k) ?_
  show own_Fin _ _ _ _ _ _ _ (T1.setTop (mkF m 6 #[.val (.ref r0), .val (.int p1), .unset] [(.int (own_iushr p1 sh))]))
  refine own_go (fun _ k => XS.istoreN X1.here hx rfl (hb hby d10_6) rfl (l' := #[.val (.ref r0), .val (.int p1), .val (.int (own_iushr p1 sh))]) rfl k) ?_
  show own_Fin _ _ _ _ _ _ _ (T1.setTop (mkF m 7 #[.val (.ref r0), .val (.int p1), .val (.int (own_iushr p1 sh))] []))
  refine own_go (fun _ k => XS.iloadN X1.here hx rfl (hb hby d10_7) rfl k) ?_
  show own_Fin _ _ _ _ _ _ _ (T1.setTop (mkF m 8 #[.val (.ref r0), .val (.int p1), .val (.int (own_iushr p1 sh))] [(.int (own_iushr p1 sh))]))
  refine own_go (fun _ k => XS.aloadN X1.here hx rfl (hb hby d10_8) rfl rfl k) ?_
  show own_Fin _ _ _ _ _ _ _ (T1.setTop (mkF m 9 #[.val (.ref r0), .val (.int p1), .val (.int (own_iushr p1 sh))] [(.ref r0), (.int (own_iushr p1 sh))]))
  obtain ⟨T2, X2, e2, st2⟩ := getF X1 hx hZ hown (host := "") (Or.inl (hw _ (List.mem_of_getElem? (i := 40) rfl))) Via.refl e1 F_bucketStart_r0_0 (g := (mkF m 9 #[.val (.ref r0), .val (.int p1), .val (.int (own_iushr p1 sh))] [(.ref r0), (.int (own_iushr p1 sh))])) rfl rfl (hb hby d10_9)
  refine own_go (fun tg k => st2 tg k) ?_
  show own_Fin _ _ _ _ _ _ _ (T2.setTop (mkF m 12 #[.val (.ref r0), .val (.int p1), .val (.int (own_iushr p1 sh))] [(.ref xB), (.int (own_iushr p1 sh))]))
  refine own_go (fun tg k => own_alen X2 hx hZ e2 A_xB_0 (g := (mkF m 12 #[.val (.ref r0), .val (.int p1), .val (.int (own_iushr p1 sh))] [(.ref xB), (.int (own_iushr p1 sh))])) rfl rfl (hb hby d10_12) tg k) ?_
  show own_Fin _ _ _ _ _ _ _ (T2.setTop (mkF m 13 #[.val (.ref r0), .val (.int p1), .val (.int (own_iushr p1 sh))] [(.int nB), (.int (own_iushr p1 sh))]))
  refine own_go (fun _ k => XS.iconst X2.here hx rfl (hb hby d10_13) k) ?_
  show own_Fin _ _ _ _ _ _ _ (T2.setTop (mkF m 14 #[.val (.ref r0), .val (.int p1), .val (.int (own_iushr p1 sh))] [(.int (1 : Int32)), (.int nB), (.int (own_iushr p1 sh))]))
  refine own_go (fun _ k => XS.isub X2.here hx rfl (hb hby d10_14) rfl k) ?_
  show own_Fin _ _ _ _ _ _ _ (T2.setTop (mkF m 15 #[.val (.ref r0), .val (.int p1), .val (.int (own_iushr p1 sh))] [(.int (nB - (1 : Int32))), (.int (own_iushr p1 sh))]))
  by_cases hc3 : (own_iushr p1 sh) < (nB - (1 : Int32))
  · refine own_go (fun _ k => XS.icmpYes X2.here hx rfl (pc0 := 15) (pc' := 24) rfl (hb hby d10_15) rfl (tlt hc3).1 (by decide) (by decide) k) ?_
    show own_Fin _ _ _ _ _ _ _ (T2.setTop (mkF m 24 #[.val (.ref r0), .val (.int p1), .val (.int (own_iushr p1 sh))] []))
    refine own_go (fun _ k => XS.aloadN X2.here hx rfl (hb hby d10_24) rfl rfl k) ?_
    show own_Fin _ _ _ _ _ _ _ (T2.setTop (mkF m 25 #[.val (.ref r0), .val (.int p1), .val (.int (own_iushr p1 sh))] [(.ref r0)]))
    obtain ⟨T4, X4, e4, st4⟩ := getF X2 hx hZ hown (host := "") (Or.inl (hw _ (List.mem_of_getElem? (i := 18) rfl))) Via.refl e2 F_numbers_r0_0 (g := (mkF m 25 #[.val (.ref r0), .val (.int p1), .val (.int (own_iushr p1 sh))] [(.ref r0)])) rfl rfl (hb hby d10_25)
    refine own_go (fun tg k => st4 tg k) ?_
    show own_Fin _ _ _ _ _ _ _ (T4.setTop (mkF m 28 #[.val (.ref r0), .val (.int p1), .val (.int (own_iushr p1 sh))] [(.ref xN)]))
    refine own_go (fun _ k => XS.aloadN X4.here hx rfl (hb hby d10_28) rfl rfl k) ?_
    show own_Fin _ _ _ _ _ _ _ (T4.setTop (mkF m 29 #[.val (.ref r0), .val (.int p1), .val (.int (own_iushr p1 sh))] [(.ref r0), (.ref xN)]))
    obtain ⟨T5, X5, e5, st5⟩ := getF X4 hx hZ hown (host := "") (Or.inl (hw _ (List.mem_of_getElem? (i := 40) rfl))) Via.refl e4 F_bucketStart_r0_0 (g := (mkF m 29 #[.val (.ref r0), .val (.int p1), .val (.int (own_iushr p1 sh))] [(.ref r0), (.ref xN)])) rfl rfl (hb hby d10_29)
    refine own_go (fun tg k => st5 tg k) ?_
    show own_Fin _ _ _ _ _ _ _ (T5.setTop (mkF m 32 #[.val (.ref r0), .val (.int p1), .val (.int (own_iushr p1 sh))] [(.ref xB), (.ref xN)]))
    refine own_go (fun _ k => XS.iloadN X5.here hx rfl (hb hby d10_32) rfl k) ?_
    show own_Fin _ _ _ _ _ _ _ (T5.setTop (mkF m 33 #[.val (.ref r0), .val (.int p1), .val (.int (own_iushr p1 sh))] [(.int (own_iushr p1 sh)), (.ref xB), (.ref xN)]))
    refine own_go (fun tg k => own_iaload X5 hx hZ e5 A_xB_0 (j := (own_iushr p1 sh)) (hp hc3).1 (x := (gB (own_iushr p1 sh).toNatClampNeg)) rfl (g := (mkF m 33 #[.val (.ref r0), .val (.int p1), .val (.int (own_iushr p1 sh))] [(.int (own_iushr p1 sh)), (.ref xB), (.ref xN)])) rfl rfl (hb hby d10_33) tg k) ?_
    show own_Fin _ _ _ _ _ _ _ (T5.setTop (mkF m 34 #[.val (.ref r0), .val (.int p1), .val (.int (own_iushr p1 sh))] [(.int (gB (own_iushr p1 sh).toNatClampNeg)), (.ref xN)]))
    refine own_go (fun _ k => XS.aloadN X5.here hx rfl (hb hby d10_34) rfl rfl k) ?_
    show own_Fin _ _ _ _ _ _ _ (T5.setTop (mkF m 35 #[.val (.ref r0), .val (.int p1), .val (.int (own_iushr p1 sh))] [(.ref r0), (.int (gB (own_iushr p1 sh).toNatClampNeg)), (.ref xN)]))
    obtain ⟨T6, X6, e6, st6⟩ := getF X5 hx hZ hown (host := "") (Or.inl (hw _ (List.mem_of_getElem? (i := 40) rfl))) Via.refl e5 F_bucketStart_r0_0 (g := (mkF m 35 #[.val (.ref r0), .val (.int p1), .val (.int (own_iushr p1 sh))] [(.ref r0), (.int (gB (own_iushr p1 sh).toNatClampNeg)), (.ref xN)])) rfl rfl (hb hby d10_35)
    refine own_go (fun tg k => st6 tg k) ?_
    show own_Fin _ _ _ _ _ _ _ (T6.setTop (mkF m 38 #[.val (.ref r0), .val (.int p1), .val (.int (own_iushr p1 sh))] [(.ref xB), (.int (gB (own_iushr p1 sh).toNatClampNeg)), (.ref xN)]))
    refine own_go (fun _ k => XS.iloadN X6.here hx rfl (hb hby d10_38) rfl k) ?_
    show own_Fin _ _ _ _ _ _ _ (T6.setTop (mkF m 39 #[.val (.ref r0), .val (.int p1), .val (.int (own_iushr p1 sh))] [(.int (own_iushr p1 sh)), (.ref xB), (.int (gB (own_iushr p1 sh).toNatClampNeg)), (.ref xN)]))
    refine own_go (fun _ k => XS.iconst X6.here hx rfl (hb hby d10_39) k) ?_
    show own_Fin _ _ _ _ _ _ _ (T6.setTop (mkF m 40 #[.val (.ref r0), .val (.int p1), .val (.int (own_iushr p1 sh))] [(.int (1 : Int32)), (.int (own_iushr p1 sh)), (.ref xB), (.int (gB (own_iushr p1 sh).toNatClampNeg)), (.ref xN)]))
    refine own_go (fun _ k => XS.iadd X6.here hx rfl (hb hby d10_40) rfl k) ?_
    show own_Fin _ _ _ _ _ _ _ (T6.setTop (mkF m 41 #[.val (.ref r0), .val (.int p1), .val (.int (own_iushr p1 sh))] [(.int ((own_iushr p1 sh) + (1 : Int32))), (.ref xB), (.int (gB (own_iushr p1 sh).toNatClampNeg)), (.ref xN)]))
    refine own_go (fun tg k => own_iaload X6 hx hZ e6 A_xB_0 (j := ((own_iushr p1 sh) + (1 : Int32))) (hp hc3).2.1 (x := (gB ((own_iushr p1 sh) + (1 : Int32)).toNatClampNeg)) rfl (g := (mkF m 41 #[.val (.ref r0), .val (.int p1), .val (.int (own_iushr p1 sh))] [(.int ((own_iushr p1 sh) + (1 : Int32))), (.ref xB), (.int (gB (own_iushr p1 sh).toNatClampNeg)), (.ref xN)])) rfl rfl (hb hby d10_41) tg k) ?_
    show own_Fin _ _ _ _ _ _ _ (T6.setTop (mkF m 42 #[.val (.ref r0), .val (.int p1), .val (.int (own_iushr p1 sh))] [(.int (gB ((own_iushr p1 sh) + (1 : Int32)).toNatClampNeg)), (.int (gB (own_iushr p1 sh).toNatClampNeg)), (.ref xN)]))
    refine own_go (fun _ k => XS.iloadN X6.here hx rfl (hb hby d10_42) rfl k) ?_
    show own_Fin _ _ _ _ _ _ _ (T6.setTop (mkF m 43 #[.val (.ref r0), .val (.int p1), .val (.int (own_iushr p1 sh))] [(.int p1), (.int (gB ((own_iushr p1 sh) + (1 : Int32)).toNatClampNeg)), (.int (gB (own_iushr p1 sh).toNatClampNeg)), (.ref xN)]))
    obtain ⟨_, _, ⟨T7, L7, k7, n7⟩, -, X7, ⟨Lc7, hQ7, l7, y7, z7⟩, st7⟩ := Jvm.LawKit.callS X6 hx (y := (⟨"com/example/reachability/reachability/CandidateList", "firstAtLeast", "([IIII)I"⟩ : MethodName)) hown (mvT hZ (hw _ (List.mem_of_getElem? (i := 71) rfl))) (mvT hZ (hw _ (List.mem_of_getElem? (i := 72) rfl))) (mvT hZ (hw _ (List.mem_of_getElem? (i := 6) rfl))) (mvT hZ (hw _ (List.mem_of_getElem? (i := 73) rfl))) (by decide) (backOf (W := 0) (rm11 l Z a0 hw [] xN (gB (own_iushr p1 sh).toNatClampNeg) (gB ((own_iushr p1 sh) + (1 : Int32)).toNatClampNeg) p1 gN h0 n0 Z0 A_xN_0 (hp hc3).2.2) hZ (hw _ (List.mem_of_getElem? (i := 73) rfl)) (hw _ (List.mem_of_getElem? (i := 6) rfl)) (by decide) (by decide)) (g := (mkF m 43 #[.val (.ref r0), .val (.int p1), .val (.int (own_iushr p1 sh))] [(.int p1), (.int (gB ((own_iushr p1 sh) + (1 : Int32)).toNatClampNeg)), (.int (gB (own_iushr p1 sh).toNatClampNeg)), (.ref xN)])) rfl (by rw [hml]; rfl) (argsL := [(.ref xN), (.int (gB (own_iushr p1 sh).toNatClampNeg)), (.int (gB ((own_iushr p1 sh) + (1 : Int32)).toNatClampNeg)), (.int p1)]) (rest := []) (lenOf own_pd281 rfl) rfl (by show 2 * 0 + _ ≤ _; exact Nat.le_of_eq rfl) (hb hby d10_43) (fun _ _ => ⟨rfl, e6, (by decide : 0 + 0 ≤ _), (by decide : 0 + 0 ≤ _)⟩)
    dsimp only [Pt.U, Pt.locs, Pt.cells, Pt.slots] at X7 l7 y7 z7 st7 hQ7
    replace y7 : 0 = k7 := y7.symm
    replace z7 : 0 = n7 := z7.symm
    subst y7 z7
    obtain ⟨rfl, N7q, e7⟩ := hQ7
    have N7 : Fr n0 L7 := by rw [l7]; exact Fr.app N0 N7q
    refine own_go (fun tg k => st7 tg k) ?_
    show own_Fin _ _ _ _ _ _ _ (T7.setTop (mkF m 46 #[.val (.ref r0), .val (.int p1), .val (.int (own_iushr p1 sh))] [(.int (own_falE gN p1 (gB (own_iushr p1 sh).toNatClampNeg) (gB ((own_iushr p1 sh) + (1 : Int32)).toNatClampNeg)))]))
    refine own_ret X7 hx hlk Bd.returns rfl (Or.inl ⟨rfl, by simp, _, rfl⟩) (hb hby d10_46) (Nat.le_of_ble_eq_true rfl) (Nat.le_of_ble_eq_true rfl) ?_
    refine ⟨(own_lf_own_f10_1 (p1 := p1) (sh := sh) (nB := nB) (gB := gB) (gN := gN) hc3), N7, e7⟩
  · refine own_go (fun _ k => XS.icmpNo X2.here hx rfl (hb hby d10_15) rfl (flt hc3).1 k) ?_
    show own_Fin _ _ _ _ _ _ _ (T2.setTop (mkF m 18 #[.val (.ref r0), .val (.int p1), .val (.int (own_iushr p1 sh))] []))
    refine own_go (fun _ k => XS.aloadN X2.here hx rfl (hb hby d10_18) rfl rfl k) ?_
    show own_Fin _ _ _ _ _ _ _ (T2.setTop (mkF m 19 #[.val (.ref r0), .val (.int p1), .val (.int (own_iushr p1 sh))] [(.ref r0)]))
    obtain ⟨T8, X8, e8, st8⟩ := getF X2 hx hZ hown (host := "") (Or.inl (hw _ (List.mem_of_getElem? (i := 18) rfl))) Via.refl e2 F_numbers_r0_0 (g := (mkF m 19 #[.val (.ref r0), .val (.int p1), .val (.int (own_iushr p1 sh))] [(.ref r0)])) rfl rfl (hb hby d10_19)
    refine own_go (fun tg k => st8 tg k) ?_
    show own_Fin _ _ _ _ _ _ _ (T8.setTop (mkF m 22 #[.val (.ref r0), .val (.int p1), .val (.int (own_iushr p1 sh))] [(.ref xN)]))
    refine own_go (fun tg k => own_alen X8 hx hZ e8 A_xN_0 (g := (mkF m 22 #[.val (.ref r0), .val (.int p1), .val (.int (own_iushr p1 sh))] [(.ref xN)])) rfl rfl (hb hby d10_22) tg k) ?_
    show own_Fin _ _ _ _ _ _ _ (T8.setTop (mkF m 23 #[.val (.ref r0), .val (.int p1), .val (.int (own_iushr p1 sh))] [(.int (3 : Int32))]))
    refine own_ret X8 hx hlk Bd.returns rfl (Or.inl ⟨rfl, by simp, _, rfl⟩) (hb hby d10_23) (Nat.le_of_ble_eq_true rfl) (Nat.le_of_ble_eq_true rfl) ?_
    refine ⟨(own_lf_own_f10_2 (p1 := p1) (sh := sh) (nB := nB) (gB := gB) (gN := gN) hc3), N0, e8⟩
theorem d13_0 : decode prog_2_method_18_code 0 = .ok (.iload_n 1, 1) := by decide +kernel
theorem d13_1 : decode prog_2_method_18_code 1 = .ok (.aload_n 0, 1) := by decide +kernel
theorem d13_2 : decode prog_2_method_18_code 2 = .ok (.getfield 17, 3) := by decide +kernel
theorem d13_5 : decode prog_2_method_18_code 5 = .ok (.arraylength, 1) := by decide +kernel
theorem d13_6 : decode prog_2_method_18_code 6 = .ok (.if_icmp .ge 12, 3) := by decide +kernel
theorem d13_9 : decode prog_2_method_18_code 9 = .ok (.aload_n 0, 1) := by decide +kernel
theorem d13_10 : decode prog_2_method_18_code 10 = .ok (.getfield 17, 3) := by decide +kernel
theorem d13_13 : decode prog_2_method_18_code 13 = .ok (.iload_n 1, 1) := by decide +kernel
theorem d13_14 : decode prog_2_method_18_code 14 = .ok (.iaload, 1) := by decide +kernel
theorem d13_15 : decode prog_2_method_18_code 15 = .ok (.goto 5, 3) := by decide +kernel
theorem d13_18 : decode prog_2_method_18_code 18 = .ok (.ldc 53, 2) := by decide +kernel
theorem d13_20 : decode prog_2_method_18_code 20 = .ok (.ireturn, 1) := by decide +kernel
theorem pn_13 : plainName "com/example/reachability/reachability/CandidateList" = true := by first | (simp [plainName, overriddenIn]; done) | decide +kernel
theorem ef_13 (m : MethodId) (r0 : Addr) (p1 : Int32) : entryFrame m #[(.ref r0), (.int p1)] 2 = mkF m 0 #[.val (.ref r0), .val (.int p1)] [] := by first | (simp [entryFrame, mkF, argsToLocals, Value.category]; done) | rfl
def rm13_room : Room := { frames := 0, cells := 0, slots := 0, locals := 0 }
def own_f13 (p1 : Int32) (gN : Nat → Int32) : Int32 := (if p1 < (3 : Int32) then ((gN p1.toNatClampNeg)) else ((2147483647 : Int32)))
def Qrm13 (Z : State) (r0 : Addr) (p1 : Int32) (xN : Addr) (gN : Nat → Int32) (h0 : Heap) (n0 : Nat) (v : Option Value) (h : Heap) (L : List Loc) : Prop := v = some (.int (own_f13 p1 gN)) ∧ Fr n0 L ∧ h = h0
theorem own_lf_own_f13_1 {p1 : Int32} {gN : Nat → Int32} (hc2 : p1 < (3 : Int32)) : (some (.int (gN p1.toNatClampNeg)) : Option Value) = some (.int (own_f13 p1 gN)) := by
  first | (simp only [own_f13, if_pos hc2]; done) | (simp only [own_f13, if_pos hc2]; rfl) | rfl
theorem own_lf_own_f13_2 {p1 : Int32} {gN : Nat → Int32} (hc2 : ¬ (p1 < (3 : Int32))) : (some (.int (2147483647 : Int32)) : Option Value) = some (.int (own_f13 p1 gN)) := by
  first | (simp only [own_f13, if_neg hc2]; done) | (simp only [own_f13, if_neg hc2]; rfl) | rfl
set_option maxRecDepth 65536 in
set_option maxHeartbeats 40000000 in
theorem rm13 (l : Launch) (Z : State) (a0 : Array Value) (hw : ∀ d ∈ tables_1, d.before a0 Z = true) (ws : List Jvm.Cond) (r0 : Addr) (p1 : Int32) (xN : Addr) (gN : Nat → Int32) (h0 : Heap) (n0 : Nat) (Z0 : n0 ≤ h0.size) (F_numbers_r0_0 : Fld Z h0 r0 "com/example/reachability/reachability/CandidateList" "numbers" "[I" (.ref xN)) (A_xN_0 : own_Arf Z h0 xN .int (3 : Int32) (fun i => .int (gN i))) (hp : ¬ p1 < (0 : Int32)) :
    MetFree l (⟨"com/example/reachability/reachability/CandidateList", "numberOf", "(I)I"⟩ : MethodName) (head1 (Jvm.Cond.code (⟨"com/example/reachability/reachability/CandidateList", "numberOf", "(I)I"⟩ : MethodName) prog_2_method_18_code 2 (some .int) :: ws) rm13_room) (fun a U => a = #[(.ref r0), (.int p1)] ∧ Z.Warmed39 U.vm ∧ U.heap = h0) (fun _ _ _ _ _ => True) (fun _ U o U' => ∃ v L, o = .returned v ∧ Qrm13 Z r0 p1 xN gN h0 n0 v U'.heap L ∧ FrameEnd U o U' L rm13_room.cells rm13_room.slots) := by
  refine MetFree.of_bodySF (plainFor_of_name pn_13) hisR ?_
  intro p e s m args below meth c s₁ Bd hml0 hP hK
  obtain ⟨rfl, hZ, hh⟩ := hP
  have hx := Bd.exec
  have hby := Bd.bytes
  have hml : c.maxLocals = 2 := hml0
  have hown : s.vm.findClass "com/example/reachability/reachability/CandidateList" = some m.cls := findClass_of_methodNamed Bd.named
  have hnm := (name_of_methodNamed Bd.named Bd.method).1
  have hlk : meth.locks = false := BodyLoose.notSynchronized Bd
  have X0 : Stand p l e rm13_room s m #[(.ref r0), (.int p1)] below meth c s₁ [] 0 0 := Stand.of_body Bd
  have e0 : s₁.heap = h0 := by rw [← hh, Bd.state]; rfl
  have N0 := Fr.nil n0
  show own_Fin p.tables e below s (Qrm13 Z r0 p1 xN gN h0 n0) rm13_room.cells rm13_room.slots (s₁.setTop (entryFrame m #[(.ref r0), (.int p1)] 2))
  rw [ef_13]
  show own_Fin _ _ _ _ _ _ _ (s₁.setTop (mkF m 0 #[.val (.ref r0), .val (.int p1)] []))
  refine own_go (fun _ k => XS.iloadN X0.here hx rfl (hb hby d13_0) rfl k) ?_
  show own_Fin _ _ _ _ _ _ _ (s₁.setTop (mkF m 1 #[.val (.ref r0), .val (.int p1)] [(.int p1)]))
  refine own_go (fun _ k => XS.aloadN X0.here hx rfl (hb hby d13_1) rfl rfl k) ?_
  show own_Fin _ _ _ _ _ _ _ (s₁.setTop (mkF m 2 #[.val (.ref r0), .val (.int p1)] [(.ref r0), (.int p1)]))
  obtain ⟨T1, X1, e1, st1⟩ := getF X0 hx hZ hown (host := "") (Or.inl (hw _ (List.mem_of_getElem? (i := 18) rfl))) Via.refl e0 F_numbers_r0_0 (g := (mkF m 2 #[.val (.ref r0), .val (.int p1)] [(.ref r0), (.int p1)])) rfl rfl (hb hby d13_2)
  refine own_go (fun tg k => st1 tg k) ?_
  show own_Fin _ _ _ _ _ _ _ (T1.setTop (mkF m 5 #[.val (.ref r0), .val (.int p1)] [(.ref xN), (.int p1)]))
  refine own_go (fun tg k => own_alen X1 hx hZ e1 A_xN_0 (g := (mkF m 5 #[.val (.ref r0), .val (.int p1)] [(.ref xN), (.int p1)])) rfl rfl (hb hby d13_5) tg k) ?_
  show own_Fin _ _ _ _ _ _ _ (T1.setTop (mkF m 6 #[.val (.ref r0), .val (.int p1)] [(.int (3 : Int32)), (.int p1)]))
  by_cases hc2 : p1 < (3 : Int32)
  · refine own_go (fun _ k => XS.icmpNo X1.here hx rfl (hb hby d13_6) rfl (tlt hc2).2.1 k) ?_
    show own_Fin _ _ _ _ _ _ _ (T1.setTop (mkF m 9 #[.val (.ref r0), .val (.int p1)] []))
    refine own_go (fun _ k => XS.aloadN X1.here hx rfl (hb hby d13_9) rfl rfl k) ?_
    show own_Fin _ _ _ _ _ _ _ (T1.setTop (mkF m 10 #[.val (.ref r0), .val (.int p1)] [(.ref r0)]))
    obtain ⟨T3, X3, e3, st3⟩ := getF X1 hx hZ hown (host := "") (Or.inl (hw _ (List.mem_of_getElem? (i := 18) rfl))) Via.refl e1 F_numbers_r0_0 (g := (mkF m 10 #[.val (.ref r0), .val (.int p1)] [(.ref r0)])) rfl rfl (hb hby d13_10)
    refine own_go (fun tg k => st3 tg k) ?_
    show own_Fin _ _ _ _ _ _ _ (T3.setTop (mkF m 13 #[.val (.ref r0), .val (.int p1)] [(.ref xN)]))
    refine own_go (fun _ k => XS.iloadN X3.here hx rfl (hb hby d13_13) rfl k) ?_
    show own_Fin _ _ _ _ _ _ _ (T3.setTop (mkF m 14 #[.val (.ref r0), .val (.int p1)] [(.int p1), (.ref xN)]))
    refine own_go (fun tg k => own_iaload X3 hx hZ e3 A_xN_0 (j := p1) ⟨hp, hc2⟩ (x := (gN p1.toNatClampNeg)) rfl (g := (mkF m 14 #[.val (.ref r0), .val (.int p1)] [(.int p1), (.ref xN)])) rfl rfl (hb hby d13_14) tg k) ?_
    show own_Fin _ _ _ _ _ _ _ (T3.setTop (mkF m 15 #[.val (.ref r0), .val (.int p1)] [(.int (gN p1.toNatClampNeg))]))
    refine own_go (fun _ k => XS.goto X3.here hx rfl (pc0 := 15) (pc' := 20) rfl (hb hby d13_15) (by decide) (by decide) k) ?_
    show own_Fin _ _ _ _ _ _ _ (T3.setTop (mkF m 20 #[.val (.ref r0), .val (.int p1)] [(.int (gN p1.toNatClampNeg))]))
    refine own_ret X3 hx hlk Bd.returns rfl (Or.inl ⟨rfl, by simp, _, rfl⟩) (hb hby d13_20) (Nat.le_of_ble_eq_true rfl) (Nat.le_of_ble_eq_true rfl) ?_
    refine ⟨(own_lf_own_f13_1 (p1 := p1) (gN := gN) hc2), N0, e3⟩
  · refine own_go (fun _ k => XS.icmpYes X1.here hx rfl (pc0 := 6) (pc' := 18) rfl (hb hby d13_6) rfl (flt hc2).2.1 (by decide) (by decide) k) ?_
    show own_Fin _ _ _ _ _ _ _ (T1.setTop (mkF m 18 #[.val (.ref r0), .val (.int p1)] []))
    refine own_go (fun _ k => X1.ldcInt hx hown (mvT hZ (hw _ (List.mem_of_getElem? (i := 54) rfl))) (g := (mkF m 18 #[.val (.ref r0), .val (.int p1)] [])) rfl (hb hby d13_18) _ k) ?_
    show own_Fin _ _ _ _ _ _ _ (T1.setTop (mkF m 20 #[.val (.ref r0), .val (.int p1)] [(.int (2147483647 : Int32))]))
    refine own_ret X1 hx hlk Bd.returns rfl (Or.inl ⟨rfl, by simp, _, rfl⟩) (hb hby d13_20) (Nat.le_of_ble_eq_true rfl) (Nat.le_of_ble_eq_true rfl) ?_
    refine ⟨(own_lf_own_f13_2 (p1 := p1) (gN := gN) hc2), N0, e1⟩
theorem d7_0 : decode prog_2_method_9_code 0 = .ok (.aload_n 0, 1) := by decide +kernel
theorem d7_1 : decode prog_2_method_9_code 1 = .ok (.getfield 63, 3) := by decide +kernel
theorem d7_4 : decode prog_2_method_9_code 4 = .ok (.ifCond .eq 14, 3) := by decide +kernel
theorem d7_7 : decode prog_2_method_9_code 7 = .ok (.aload_n 0, 1) := by decide +kernel
theorem d7_8 : decode prog_2_method_9_code 8 = .ok (.getfield 60, 3) := by decide +kernel
theorem d7_11 : decode prog_2_method_9_code 11 = .ok (.ifCond .le 7, 3) := by decide +kernel
theorem d7_14 : decode prog_2_method_9_code 14 = .ok (.iconst 1, 1) := by decide +kernel
theorem d7_15 : decode prog_2_method_9_code 15 = .ok (.goto 4, 3) := by decide +kernel
theorem d7_18 : decode prog_2_method_9_code 18 = .ok (.iconst 0, 1) := by decide +kernel
theorem d7_19 : decode prog_2_method_9_code 19 = .ok (.ireturn, 1) := by decide +kernel
theorem pn_7 : plainName "com/example/reachability/reachability/CandidateList" = true := by first | (simp [plainName, overriddenIn]; done) | decide +kernel
theorem ef_7 (m : MethodId) (r0 : Addr) : entryFrame m #[(.ref r0)] 1 = mkF m 0 #[.val (.ref r0)] [] := by first | (simp [entryFrame, mkF, argsToLocals, Value.category]; done) | rfl
def rm7_room : Room := { frames := 0, cells := 0, slots := 0, locals := 0 }
def own_f7 (fo : Int32) (fc : Int32) : Int32 := (if fo = (0 : Int32) then ((0 : Int32)) else ((if (0 : Int32) < fc then ((1 : Int32)) else ((0 : Int32)))))
def Qrm7 (Z : State) (r0 : Addr) (fo : Int32) (fc : Int32) (h0 : Heap) (n0 : Nat) (v : Option Value) (h : Heap) (L : List Loc) : Prop := v = some (.int (own_f7 fo fc)) ∧ Fr n0 L ∧ h = h0
theorem own_lf_own_f7_1 {fo : Int32} {fc : Int32} (hc2 : fo = (0 : Int32)) : (some (.int (0 : Int32)) : Option Value) = some (.int (own_f7 fo fc)) := by
  first | (simp only [own_f7, if_pos hc2]; done) | (simp only [own_f7, if_pos hc2]; rfl) | rfl
theorem own_lf_own_f7_2 {fo : Int32} {fc : Int32} (hc2 : ¬ (fo = (0 : Int32))) (hc4 : (0 : Int32) < fc) : (some (.int (1 : Int32)) : Option Value) = some (.int (own_f7 fo fc)) := by
  first | (simp only [own_f7, if_neg hc2, if_pos hc4]; done) | (simp only [own_f7, if_neg hc2, if_pos hc4]; rfl) | rfl
theorem own_lf_own_f7_3 {fo : Int32} {fc : Int32} (hc2 : ¬ (fo = (0 : Int32))) (hc4 : ¬ ((0 : Int32) < fc)) : (some (.int (0 : Int32)) : Option Value) = some (.int (own_f7 fo fc)) := by
  first | (simp only [own_f7, if_neg hc2, if_neg hc4]; done) | (simp only [own_f7, if_neg hc2, if_neg hc4]; rfl) | rfl
set_option maxRecDepth 65536 in
set_option maxHeartbeats 40000000 in
theorem rm7 (l : Launch) (Z : State) (a0 : Array Value) (hw : ∀ d ∈ tables_1, d.before a0 Z = true) (ws : List Jvm.Cond) (r0 : Addr) (fo : Int32) (fc : Int32) (h0 : Heap) (n0 : Nat) (Z0 : n0 ≤ h0.size) (F_firstOnly_r0_0 : Fld Z h0 r0 "com/example/reachability/reachability/CandidateList" "firstOnly" "Z" (.int fo)) (F_foundCount_r0_0 : Fld Z h0 r0 "com/example/reachability/reachability/CandidateList" "foundCount" "I" (.int fc)) :
    MetFree l (⟨"com/example/reachability/reachability/CandidateList", "satisfied", "()Z"⟩ : MethodName) (head1 (Jvm.Cond.code (⟨"com/example/reachability/reachability/CandidateList", "satisfied", "()Z"⟩ : MethodName) prog_2_method_9_code 1 (some .boolean) :: ws) rm7_room) (fun a U => a = #[(.ref r0)] ∧ Z.Warmed39 U.vm ∧ U.heap = h0) (fun _ _ _ _ _ => True) (fun _ U o U' => ∃ v L, o = .returned v ∧ Qrm7 Z r0 fo fc h0 n0 v U'.heap L ∧ FrameEnd U o U' L rm7_room.cells rm7_room.slots) := by
  refine MetFree.of_bodySF (plainFor_of_name pn_7) hisR ?_
  intro p e s m args below meth c s₁ Bd hml0 hP hK
  obtain ⟨rfl, hZ, hh⟩ := hP
  have hx := Bd.exec
  have hby := Bd.bytes
  have hml : c.maxLocals = 1 := hml0
  have hown : s.vm.findClass "com/example/reachability/reachability/CandidateList" = some m.cls := findClass_of_methodNamed Bd.named
  have hnm := (name_of_methodNamed Bd.named Bd.method).1
  have hlk : meth.locks = false := BodyLoose.notSynchronized Bd
  have X0 : Stand p l e rm7_room s m #[(.ref r0)] below meth c s₁ [] 0 0 := Stand.of_body Bd
  have e0 : s₁.heap = h0 := by rw [← hh, Bd.state]; rfl
  have N0 := Fr.nil n0
  show own_Fin p.tables e below s (Qrm7 Z r0 fo fc h0 n0) rm7_room.cells rm7_room.slots (s₁.setTop (entryFrame m #[(.ref r0)] 1))
  rw [ef_7]
  show own_Fin _ _ _ _ _ _ _ (s₁.setTop (mkF m 0 #[.val (.ref r0)] []))
  refine own_go (fun _ k => XS.aloadN X0.here hx rfl (hb hby d7_0) rfl rfl k) ?_
  show own_Fin _ _ _ _ _ _ _ (s₁.setTop (mkF m 1 #[.val (.ref r0)] [(.ref r0)]))
  obtain ⟨T1, X1, e1, st1⟩ := getF X0 hx hZ hown (host := "") (Or.inl (hw _ (List.mem_of_getElem? (i := 47) rfl))) Via.refl e0 F_firstOnly_r0_0 (g := (mkF m 1 #[.val (.ref r0)] [(.ref r0)])) rfl rfl (hb hby d7_1)
  refine own_go (fun tg k => st1 tg k) ?_
  show own_Fin _ _ _ _ _ _ _ (T1.setTop (mkF m 4 #[.val (.ref r0)] [(.int fo)]))
  by_cases hc2 : fo = (0 : Int32)
  · refine own_go (fun _ k => XS.ifYes X1.here hx rfl (pc0 := 4) (pc' := 18) rfl (hb hby d7_4) rfl ((if0 _ _).trans (teq hc2).1) (by decide) (by decide) k) ?_
    show own_Fin _ _ _ _ _ _ _ (T1.setTop (mkF m 18 #[.val (.ref r0)] []))
    refine own_go (fun _ k => XS.iconst X1.here hx rfl (hb hby d7_18) k) ?_
    show own_Fin _ _ _ _ _ _ _ (T1.setTop (mkF m 19 #[.val (.ref r0)] [(.int (0 : Int32))]))
    refine own_ret X1 hx hlk Bd.returns rfl (Or.inl ⟨rfl, by simp, _, rfl⟩) (hb hby d7_19) (Nat.le_of_ble_eq_true rfl) (Nat.le_of_ble_eq_true rfl) ?_
    refine ⟨(own_lf_own_f7_1 (fo := fo) (fc := fc) hc2), N0, e1⟩
  · refine own_go (fun _ k => XS.ifNo X1.here hx rfl (hb hby d7_4) rfl ((if0 _ _).trans (feq hc2).1) k) ?_
    show own_Fin _ _ _ _ _ _ _ (T1.setTop (mkF m 7 #[.val (.ref r0)] []))
    refine own_go (fun _ k => XS.aloadN X1.here hx rfl (hb hby d7_7) rfl rfl k) ?_
    show own_Fin _ _ _ _ _ _ _ (T1.setTop (mkF m 8 #[.val (.ref r0)] [(.ref r0)]))
    obtain ⟨T3, X3, e3, st3⟩ := getF X1 hx hZ hown (host := "") (Or.inl (hw _ (List.mem_of_getElem? (i := 55) rfl))) Via.refl e1 F_foundCount_r0_0 (g := (mkF m 8 #[.val (.ref r0)] [(.ref r0)])) rfl rfl (hb hby d7_8)
    refine own_go (fun tg k => st3 tg k) ?_
    show own_Fin _ _ _ _ _ _ _ (T3.setTop (mkF m 11 #[.val (.ref r0)] [(.int fc)]))
    by_cases hc4 : (0 : Int32) < fc
    · refine own_go (fun _ k => XS.ifNo X3.here hx rfl (hb hby d7_11) rfl ((if0 _ _).trans (tlt hc4).2.2.2) k) ?_
      show own_Fin _ _ _ _ _ _ _ (T3.setTop (mkF m 14 #[.val (.ref r0)] []))
      refine own_go (fun _ k => XS.iconst X3.here hx rfl (hb hby d7_14) k) ?_
      show own_Fin _ _ _ _ _ _ _ (T3.setTop (mkF m 15 #[.val (.ref r0)] [(.int (1 : Int32))]))
      refine own_go (fun _ k => XS.goto X3.here hx rfl (pc0 := 15) (pc' := 19) rfl (hb hby d7_15) (by decide) (by decide) k) ?_
      show own_Fin _ _ _ _ _ _ _ (T3.setTop (mkF m 19 #[.val (.ref r0)] [(.int (1 : Int32))]))
      refine own_ret X3 hx hlk Bd.returns rfl (Or.inl ⟨rfl, by simp, _, rfl⟩) (hb hby d7_19) (Nat.le_of_ble_eq_true rfl) (Nat.le_of_ble_eq_true rfl) ?_
      refine ⟨(own_lf_own_f7_2 (fo := fo) (fc := fc) hc2 hc4), N0, e3⟩
    · refine own_go (fun _ k => XS.ifYes X3.here hx rfl (pc0 := 11) (pc' := 18) rfl (hb hby d7_11) rfl ((if0 _ _).trans (flt hc4).2.2.2) (by decide) (by decide) k) ?_
      show own_Fin _ _ _ _ _ _ _ (T3.setTop (mkF m 18 #[.val (.ref r0)] []))
      refine own_go (fun _ k => XS.iconst X3.here hx rfl (hb hby d7_18) k) ?_
      show own_Fin _ _ _ _ _ _ _ (T3.setTop (mkF m 19 #[.val (.ref r0)] [(.int (0 : Int32))]))
      refine own_ret X3 hx hlk Bd.returns rfl (Or.inl ⟨rfl, by simp, _, rfl⟩) (hb hby d7_19) (Nat.le_of_ble_eq_true rfl) (Nat.le_of_ble_eq_true rfl) ?_
      refine ⟨(own_lf_own_f7_3 (fo := fo) (fc := fc) hc2 hc4), N0, e3⟩
theorem d12_0 : decode prog_2_method_21_code 0 = .ok (.iload_n 1, 1) := by decide +kernel
theorem d12_1 : decode prog_2_method_21_code 1 = .ok (.istore_n 2, 1) := by decide +kernel
theorem d12_2 : decode prog_2_method_21_code 2 = .ok (.iload_n 2, 1) := by decide +kernel
theorem d12_3 : decode prog_2_method_21_code 3 = .ok (.aload_n 0, 1) := by decide +kernel
theorem d12_4 : decode prog_2_method_21_code 4 = .ok (.getfield 17, 3) := by decide +kernel
theorem d12_7 : decode prog_2_method_21_code 7 = .ok (.arraylength, 1) := by decide +kernel
theorem d12_8 : decode prog_2_method_21_code 8 = .ok (.if_icmp .ge 26, 3) := by decide +kernel
theorem d12_11 : decode prog_2_method_21_code 11 = .ok (.aload_n 0, 1) := by decide +kernel
theorem d12_12 : decode prog_2_method_21_code 12 = .ok (.getfield 23, 3) := by decide +kernel
theorem d12_15 : decode prog_2_method_21_code 15 = .ok (.iload_n 2, 1) := by decide +kernel
theorem d12_16 : decode prog_2_method_21_code 16 = .ok (.iaload, 1) := by decide +kernel
theorem d12_17 : decode prog_2_method_21_code 17 = .ok (.aload_n 0, 1) := by decide +kernel
theorem d12_18 : decode prog_2_method_21_code 18 = .ok (.getfield 7, 3) := by decide +kernel
theorem d12_21 : decode prog_2_method_21_code 21 = .ok (.if_icmp .ne 13, 3) := by decide +kernel
theorem d12_34 : decode prog_2_method_21_code 34 = .ok (.iload_n 1, 1) := by decide +kernel
theorem d12_35 : decode prog_2_method_21_code 35 = .ok (.istore_n 3, 1) := by decide +kernel
theorem d12_36 : decode prog_2_method_21_code 36 = .ok (.iload_n 3, 1) := by decide +kernel
theorem d12_37 : decode prog_2_method_21_code 37 = .ok (.iload_n 2, 1) := by decide +kernel
theorem d12_38 : decode prog_2_method_21_code 38 = .ok (.if_icmp .eq 24, 3) := by decide +kernel
theorem d12_62 : decode prog_2_method_21_code 62 = .ok (.iload_n 2, 1) := by decide +kernel
theorem d12_63 : decode prog_2_method_21_code 63 = .ok (.ireturn, 1) := by decide +kernel
theorem pn_12 : plainName "com/example/reachability/reachability/CandidateList" = true := by first | (simp [plainName, overriddenIn]; done) | decide +kernel
theorem ef_12 (m : MethodId) (r0 : Addr) (p1 : Int32) : entryFrame m #[(.ref r0), (.int p1)] 5 = mkF m 0 #[.val (.ref r0), .val (.int p1), .unset, .unset, .unset] [] := by first | (simp [entryFrame, mkF, argsToLocals, Value.category]; done) | rfl
def rm12f_room : Room := { frames := 0, cells := 0, slots := 0, locals := 0 }
def Qrm12f (Z : State) (r0 : Addr) (p1 : Int32) (xN : Addr) (gN : Nat → Int32) (xF : Addr) (gF : Nat → Int32) (se : Int32) (h0 : Heap) (n0 : Nat) (v : Option Value) (h : Heap) (L : List Loc) : Prop := v = some (.int p1) ∧ Fr n0 L ∧ h = h0
set_option maxRecDepth 65536 in
set_option maxHeartbeats 40000000 in
theorem rm12f (l : Launch) (Z : State) (a0 : Array Value) (hw : ∀ d ∈ tables_1, d.before a0 Z = true) (ws : List Jvm.Cond) (r0 : Addr) (p1 : Int32) (xN : Addr) (gN : Nat → Int32) (xF : Addr) (gF : Nat → Int32) (se : Int32) (h0 : Heap) (n0 : Nat) (Z0 : n0 ≤ h0.size) (F_numbers_r0_0 : Fld Z h0 r0 "com/example/reachability/reachability/CandidateList" "numbers" "[I" (.ref xN)) (A_xN_0 : own_Arf Z h0 xN .int (3 : Int32) (fun i => .int (gN i))) (F_foundIn_r0_0 : Fld Z h0 r0 "com/example/reachability/reachability/CandidateList" "foundIn" "[I" (.ref xF)) (A_xF_0 : own_Arf Z h0 xF .int (3 : Int32) (fun i => .int (gF i))) (F_search_r0_0 : Fld Z h0 r0 "com/example/reachability/reachability/CandidateList" "search" "I" (.int se)) (hp : ¬ p1 < (0 : Int32) ∧ (p1 < (3 : Int32) → ¬ gF p1.toNatClampNeg = se)) :
    MetFree l (⟨"com/example/reachability/reachability/CandidateList", "open", "(I)I"⟩ : MethodName) (head1 (Jvm.Cond.code (⟨"com/example/reachability/reachability/CandidateList", "open", "(I)I"⟩ : MethodName) prog_2_method_21_code 5 (some .int) :: ws) rm12f_room) (fun a U => a = #[(.ref r0), (.int p1)] ∧ Z.Warmed39 U.vm ∧ U.heap = h0) (fun _ _ _ _ _ => True) (fun _ U o U' => ∃ v L, o = .returned v ∧ Qrm12f Z r0 p1 xN gN xF gF se h0 n0 v U'.heap L ∧ FrameEnd U o U' L rm12f_room.cells rm12f_room.slots) := by
  refine MetFree.of_bodySF (plainFor_of_name pn_12) hisR ?_
  intro p e s m args below meth c s₁ Bd hml0 hP hK
  obtain ⟨rfl, hZ, hh⟩ := hP
  have hx := Bd.exec
  have hby := Bd.bytes
  have hml : c.maxLocals = 5 := hml0
  have hown : s.vm.findClass "com/example/reachability/reachability/CandidateList" = some m.cls := findClass_of_methodNamed Bd.named
  have hnm := (name_of_methodNamed Bd.named Bd.method).1
  have hlk : meth.locks = false := BodyLoose.notSynchronized Bd
  have X0 : Stand p l e rm12f_room s m #[(.ref r0), (.int p1)] below meth c s₁ [] 0 0 := Stand.of_body Bd
  have e0 : s₁.heap = h0 := by rw [← hh, Bd.state]; rfl
  have N0 := Fr.nil n0
  show own_Fin p.tables e below s (Qrm12f Z r0 p1 xN gN xF gF se h0 n0) rm12f_room.cells rm12f_room.slots (s₁.setTop (entryFrame m #[(.ref r0), (.int p1)] 5))
  rw [ef_12]
  show own_Fin _ _ _ _ _ _ _ (s₁.setTop (mkF m 0 #[.val (.ref r0), .val (.int p1), .unset, .unset, .unset] []))
  refine own_go (fun _ k => XS.iloadN X0.here hx rfl (hb hby d12_0) rfl k) ?_
  show own_Fin _ _ _ _ _ _ _ (s₁.setTop (mkF m 1 #[.val (.ref r0), .val (.int p1), .unset, .unset, .unset] [(.int p1)]))
  refine own_go (fun _ k => XS.istoreN X0.here hx rfl (hb hby d12_1) rfl (l' := #[.val (.ref r0), .val (.int p1), .val (.int p1), .unset, .unset]) rfl k) ?_
  show own_Fin _ _ _ _ _ _ _ (s₁.setTop (mkF m 2 #[.val (.ref r0), .val (.int p1), .val (.int p1), .unset, .unset] []))
  refine own_go (fun _ k => XS.iloadN X0.here hx rfl (hb hby d12_2) rfl k) ?_
  show own_Fin _ _ _ _ _ _ _ (s₁.setTop (mkF m 3 #[.val (.ref r0), .val (.int p1), .val (.int p1), .unset, .unset] [(.int p1)]))
  refine own_go (fun _ k => XS.aloadN X0.here hx rfl (hb hby d12_3) rfl rfl k) ?_
  show own_Fin _ _ _ _ _ _ _ (s₁.setTop (mkF m 4 #[.val (.ref r0), .val (.int p1), .val (.int p1), .unset, .unset] [(.ref r0), (.int p1)]))
  obtain ⟨T1, X1, e1, st1⟩ := getF X0 hx hZ hown (host := "") (Or.inl (hw _ (List.mem_of_getElem? (i := 18) rfl))) Via.refl e0 F_numbers_r0_0 (g := (mkF m 4 #[.val (.ref r0), .val (.int p1), .val (.int p1), .unset, .unset] [(.ref r0), (.int p1)])) rfl rfl (hb hby d12_4)
  refine own_go (fun tg k => st1 tg k) ?_
  show own_Fin _ _ _ _ _ _ _ (T1.setTop (mkF m 7 #[.val (.ref r0), .val (.int p1), .val (.int p1), .unset, .unset] [(.ref xN), (.int p1)]))
  refine own_go (fun tg k => own_alen X1 hx hZ e1 A_xN_0 (g := (mkF m 7 #[.val (.ref r0), .val (.int p1), .val (.int p1), .unset, .unset] [(.ref xN), (.int p1)])) rfl rfl (hb hby d12_7) tg k) ?_
  show own_Fin _ _ _ _ _ _ _ (T1.setTop (mkF m 8 #[.val (.ref r0), .val (.int p1), .val (.int p1), .unset, .unset] [(.int (3 : Int32)), (.int p1)]))
  by_cases hc2 : p1 < (3 : Int32)
  · refine own_go (fun _ k => XS.icmpNo X1.here hx rfl (hb hby d12_8) rfl (tlt hc2).2.1 k) ?_
    show own_Fin _ _ _ _ _ _ _ (T1.setTop (mkF m 11 #[.val (.ref r0), .val (.int p1), .val (.int p1), .unset, .unset] []))
    refine own_go (fun _ k => XS.aloadN X1.here hx rfl (hb hby d12_11) rfl rfl k) ?_
    show own_Fin _ _ _ _ _ _ _ (T1.setTop (mkF m 12 #[.val (.ref r0), .val (.int p1), .val (.int p1), .unset, .unset] [(.ref r0)]))
    obtain ⟨T3, X3, e3, st3⟩ := getF X1 hx hZ hown (host := "") (Or.inl (hw _ (List.mem_of_getElem? (i := 22) rfl))) Via.refl e1 F_foundIn_r0_0 (g := (mkF m 12 #[.val (.ref r0), .val (.int p1), .val (.int p1), .unset, .unset] [(.ref r0)])) rfl rfl (hb hby d12_12)
    refine own_go (fun tg k => st3 tg k) ?_
    show own_Fin _ _ _ _ _ _ _ (T3.setTop (mkF m 15 #[.val (.ref r0), .val (.int p1), .val (.int p1), .unset, .unset] [(.ref xF)]))
    refine own_go (fun _ k => XS.iloadN X3.here hx rfl (hb hby d12_15) rfl k) ?_
    show own_Fin _ _ _ _ _ _ _ (T3.setTop (mkF m 16 #[.val (.ref r0), .val (.int p1), .val (.int p1), .unset, .unset] [(.int p1), (.ref xF)]))
    refine own_go (fun tg k => own_iaload X3 hx hZ e3 A_xF_0 (j := p1) ⟨hp.1, hc2⟩ (x := (gF p1.toNatClampNeg)) rfl (g := (mkF m 16 #[.val (.ref r0), .val (.int p1), .val (.int p1), .unset, .unset] [(.int p1), (.ref xF)])) rfl rfl (hb hby d12_16) tg k) ?_
    show own_Fin _ _ _ _ _ _ _ (T3.setTop (mkF m 17 #[.val (.ref r0), .val (.int p1), .val (.int p1), .unset, .unset] [(.int (gF p1.toNatClampNeg))]))
    refine own_go (fun _ k => XS.aloadN X3.here hx rfl (hb hby d12_17) rfl rfl k) ?_
    show own_Fin _ _ _ _ _ _ _ (T3.setTop (mkF m 18 #[.val (.ref r0), .val (.int p1), .val (.int p1), .unset, .unset] [(.ref r0), (.int (gF p1.toNatClampNeg))]))
    obtain ⟨T4, X4, e4, st4⟩ := getF X3 hx hZ hown (host := "") (Or.inl (hw _ (List.mem_of_getElem? (i := 14) rfl))) Via.refl e3 F_search_r0_0 (g := (mkF m 18 #[.val (.ref r0), .val (.int p1), .val (.int p1), .unset, .unset] [(.ref r0), (.int (gF p1.toNatClampNeg))])) rfl rfl (hb hby d12_18)
    refine own_go (fun tg k => st4 tg k) ?_
    show own_Fin _ _ _ _ _ _ _ (T4.setTop (mkF m 21 #[.val (.ref r0), .val (.int p1), .val (.int p1), .unset, .unset] [(.int se), (.int (gF p1.toNatClampNeg))]))
    have hc21 : ¬ ((gF p1.toNatClampNeg) = se) := hp.2 hc2
    refine own_go (fun _ k => XS.icmpYes X4.here hx rfl (pc0 := 21) (pc' := 34) rfl (hb hby d12_21) rfl (feq hc21).2 (by decide) (by decide) k) ?_
    show own_Fin _ _ _ _ _ _ _ (T4.setTop (mkF m 34 #[.val (.ref r0), .val (.int p1), .val (.int p1), .unset, .unset] []))
    refine own_go (fun _ k => XS.iloadN X4.here hx rfl (hb hby d12_34) rfl k) ?_
    show own_Fin _ _ _ _ _ _ _ (T4.setTop (mkF m 35 #[.val (.ref r0), .val (.int p1), .val (.int p1), .unset, .unset] [(.int p1)]))
    refine own_go (fun _ k => XS.istoreN X4.here hx rfl (hb hby d12_35) rfl (l' := #[.val (.ref r0), .val (.int p1), .val (.int p1), .val (.int p1), .unset]) rfl k) ?_
    show own_Fin _ _ _ _ _ _ _ (T4.setTop (mkF m 36 #[.val (.ref r0), .val (.int p1), .val (.int p1), .val (.int p1), .unset] []))
    refine own_go (fun _ k => XS.iloadN X4.here hx rfl (hb hby d12_36) rfl k) ?_
    show own_Fin _ _ _ _ _ _ _ (T4.setTop (mkF m 37 #[.val (.ref r0), .val (.int p1), .val (.int p1), .val (.int p1), .unset] [(.int p1)]))
    refine own_go (fun _ k => XS.iloadN X4.here hx rfl (hb hby d12_37) rfl k) ?_
    show own_Fin _ _ _ _ _ _ _ (T4.setTop (mkF m 38 #[.val (.ref r0), .val (.int p1), .val (.int p1), .val (.int p1), .unset] [(.int p1), (.int p1)]))
    refine own_go (fun _ k => XS.icmpYes X4.here hx rfl (pc0 := 38) (pc' := 62) rfl (hb hby d12_38) rfl (teq rfl).1 (by decide) (by decide) k) ?_
    show own_Fin _ _ _ _ _ _ _ (T4.setTop (mkF m 62 #[.val (.ref r0), .val (.int p1), .val (.int p1), .val (.int p1), .unset] []))
    refine own_go (fun _ k => XS.iloadN X4.here hx rfl (hb hby d12_62) rfl k) ?_
    show own_Fin _ _ _ _ _ _ _ (T4.setTop (mkF m 63 #[.val (.ref r0), .val (.int p1), .val (.int p1), .val (.int p1), .unset] [(.int p1)]))
    refine own_ret X4 hx hlk Bd.returns rfl (Or.inl ⟨rfl, by simp, _, rfl⟩) (hb hby d12_63) (Nat.le_of_ble_eq_true rfl) (Nat.le_of_ble_eq_true rfl) ?_
    refine ⟨?_, N0, e4⟩
    · rfl
  · refine own_go (fun _ k => XS.icmpYes X1.here hx rfl (pc0 := 8) (pc' := 34) rfl (hb hby d12_8) rfl (flt hc2).2.1 (by decide) (by decide) k) ?_
    show own_Fin _ _ _ _ _ _ _ (T1.setTop (mkF m 34 #[.val (.ref r0), .val (.int p1), .val (.int p1), .unset, .unset] []))
    refine own_go (fun _ k => XS.iloadN X1.here hx rfl (hb hby d12_34) rfl k) ?_
    show own_Fin _ _ _ _ _ _ _ (T1.setTop (mkF m 35 #[.val (.ref r0), .val (.int p1), .val (.int p1), .unset, .unset] [(.int p1)]))
    refine own_go (fun _ k => XS.istoreN X1.here hx rfl (hb hby d12_35) rfl (l' := #[.val (.ref r0), .val (.int p1), .val (.int p1), .val (.int p1), .unset]) rfl k) ?_
    show own_Fin _ _ _ _ _ _ _ (T1.setTop (mkF m 36 #[.val (.ref r0), .val (.int p1), .val (.int p1), .val (.int p1), .unset] []))
    refine own_go (fun _ k => XS.iloadN X1.here hx rfl (hb hby d12_36) rfl k) ?_
    show own_Fin _ _ _ _ _ _ _ (T1.setTop (mkF m 37 #[.val (.ref r0), .val (.int p1), .val (.int p1), .val (.int p1), .unset] [(.int p1)]))
    refine own_go (fun _ k => XS.iloadN X1.here hx rfl (hb hby d12_37) rfl k) ?_
    show own_Fin _ _ _ _ _ _ _ (T1.setTop (mkF m 38 #[.val (.ref r0), .val (.int p1), .val (.int p1), .val (.int p1), .unset] [(.int p1), (.int p1)]))
    refine own_go (fun _ k => XS.icmpYes X1.here hx rfl (pc0 := 38) (pc' := 62) rfl (hb hby d12_38) rfl (teq rfl).1 (by decide) (by decide) k) ?_
    show own_Fin _ _ _ _ _ _ _ (T1.setTop (mkF m 62 #[.val (.ref r0), .val (.int p1), .val (.int p1), .val (.int p1), .unset] []))
    refine own_go (fun _ k => XS.iloadN X1.here hx rfl (hb hby d12_62) rfl k) ?_
    show own_Fin _ _ _ _ _ _ _ (T1.setTop (mkF m 63 #[.val (.ref r0), .val (.int p1), .val (.int p1), .val (.int p1), .unset] [(.int p1)]))
    refine own_ret X1 hx hlk Bd.returns rfl (Or.inl ⟨rfl, by simp, _, rfl⟩) (hb hby d12_63) (Nat.le_of_ble_eq_true rfl) (Nat.le_of_ble_eq_true rfl) ?_
    refine ⟨?_, N0, e1⟩
    · rfl
theorem own_sn360 {Z : State} {a0 : Array Value} (hw : ∀ d ∈ tables_1, d.before a0 Z = true) : Jvm.RoadKit.slotOf Z "com/example/reachability/reachability/CandidateList" "numbers" "[I" ≠ Jvm.RoadKit.slotOf Z "com/example/reachability/reachability/CandidateList" "foundCount" "I" := slot_ne (Or.inr (hw _ (List.mem_of_getElem? (i := 19) rfl))) (Or.inl (hw _ (List.mem_of_getElem? (i := 56) rfl))) (by decide) (t := (.array .int)) (t' := .int) (by decide) (by decide)
theorem own_sn361 {Z : State} {a0 : Array Value} (hw : ∀ d ∈ tables_1, d.before a0 Z = true) : Jvm.RoadKit.slotOf Z "com/example/reachability/reachability/CandidateList" "elements" "[I" ≠ Jvm.RoadKit.slotOf Z "com/example/reachability/reachability/CandidateList" "foundCount" "I" := slot_ne (Or.inr (hw _ (List.mem_of_getElem? (i := 21) rfl))) (Or.inl (hw _ (List.mem_of_getElem? (i := 56) rfl))) (by decide) (t := (.array .int)) (t' := .int) (by decide) (by decide)
theorem own_sn362 {Z : State} {a0 : Array Value} (hw : ∀ d ∈ tables_1, d.before a0 Z = true) : Jvm.RoadKit.slotOf Z "com/example/reachability/reachability/CandidateList" "foundIn" "[I" ≠ Jvm.RoadKit.slotOf Z "com/example/reachability/reachability/CandidateList" "foundCount" "I" := slot_ne (Or.inr (hw _ (List.mem_of_getElem? (i := 23) rfl))) (Or.inl (hw _ (List.mem_of_getElem? (i := 56) rfl))) (by decide) (t := (.array .int)) (t' := .int) (by decide) (by decide)
theorem own_sn363 {Z : State} {a0 : Array Value} (hw : ∀ d ∈ tables_1, d.before a0 Z = true) : Jvm.RoadKit.slotOf Z "com/example/reachability/reachability/CandidateList" "next" "[I" ≠ Jvm.RoadKit.slotOf Z "com/example/reachability/reachability/CandidateList" "foundCount" "I" := slot_ne (Or.inr (hw _ (List.mem_of_getElem? (i := 25) rfl))) (Or.inl (hw _ (List.mem_of_getElem? (i := 56) rfl))) (by decide) (t := (.array .int)) (t' := .int) (by decide) (by decide)
theorem own_sn364 {Z : State} {a0 : Array Value} (hw : ∀ d ∈ tables_1, d.before a0 Z = true) : Jvm.RoadKit.slotOf Z "com/example/reachability/reachability/CandidateList" "found" "[I" ≠ Jvm.RoadKit.slotOf Z "com/example/reachability/reachability/CandidateList" "foundCount" "I" := slot_ne (Or.inr (hw _ (List.mem_of_getElem? (i := 27) rfl))) (Or.inl (hw _ (List.mem_of_getElem? (i := 56) rfl))) (by decide) (t := (.array .int)) (t' := .int) (by decide) (by decide)
theorem own_sn365 {Z : State} {a0 : Array Value} (hw : ∀ d ∈ tables_1, d.before a0 Z = true) : Jvm.RoadKit.slotOf Z "com/example/reachability/reachability/CandidateList" "bucketShift" "I" ≠ Jvm.RoadKit.slotOf Z "com/example/reachability/reachability/CandidateList" "foundCount" "I" := slot_ne (Or.inr (hw _ (List.mem_of_getElem? (i := 36) rfl))) (Or.inl (hw _ (List.mem_of_getElem? (i := 56) rfl))) (by decide) (t := .int) (t' := .int) (by decide) (by decide)
theorem own_sn366 {Z : State} {a0 : Array Value} (hw : ∀ d ∈ tables_1, d.before a0 Z = true) : Jvm.RoadKit.slotOf Z "com/example/reachability/reachability/CandidateList" "bucketStart" "[I" ≠ Jvm.RoadKit.slotOf Z "com/example/reachability/reachability/CandidateList" "foundCount" "I" := slot_ne (Or.inr (hw _ (List.mem_of_getElem? (i := 41) rfl))) (Or.inl (hw _ (List.mem_of_getElem? (i := 56) rfl))) (by decide) (t := (.array .int)) (t' := .int) (by decide) (by decide)
theorem own_sn367 {Z : State} {a0 : Array Value} (hw : ∀ d ∈ tables_1, d.before a0 Z = true) : Jvm.RoadKit.slotOf Z "com/example/reachability/reachability/CandidateList" "search" "I" ≠ Jvm.RoadKit.slotOf Z "com/example/reachability/reachability/CandidateList" "foundCount" "I" := slot_ne (Or.inl (hw _ (List.mem_of_getElem? (i := 15) rfl))) (Or.inl (hw _ (List.mem_of_getElem? (i := 56) rfl))) (by decide) (t := .int) (t' := .int) (by decide) (by decide)
theorem own_sn368 {Z : State} {a0 : Array Value} (hw : ∀ d ∈ tables_1, d.before a0 Z = true) : Jvm.RoadKit.slotOf Z "com/example/reachability/reachability/CandidateList" "firstOnly" "Z" ≠ Jvm.RoadKit.slotOf Z "com/example/reachability/reachability/CandidateList" "foundCount" "I" := slot_ne (Or.inl (hw _ (List.mem_of_getElem? (i := 48) rfl))) (Or.inl (hw _ (List.mem_of_getElem? (i := 56) rfl))) (by decide) (t := .boolean) (t' := .int) (by decide) (by decide)
theorem own_sn369 {Z : State} {a0 : Array Value} (hw : ∀ d ∈ tables_1, d.before a0 Z = true) : Jvm.RoadKit.slotOf Z "com/example/reachability/reachability/CandidateList" "forRuns" "Z" ≠ Jvm.RoadKit.slotOf Z "com/example/reachability/reachability/CandidateList" "foundCount" "I" := slot_ne (Or.inl (hw _ (List.mem_of_getElem? (i := 58) rfl))) (Or.inl (hw _ (List.mem_of_getElem? (i := 56) rfl))) (by decide) (t := .boolean) (t' := .int) (by decide) (by decide)
theorem own_sn370 {Z : State} {a0 : Array Value} (hw : ∀ d ∈ tables_1, d.before a0 Z = true) : Jvm.RoadKit.slotOf Z "com/example/reachability/reachability/CandidateList" "runsLength" "I" ≠ Jvm.RoadKit.slotOf Z "com/example/reachability/reachability/CandidateList" "foundCount" "I" := slot_ne (Or.inl (hw _ (List.mem_of_getElem? (i := 60) rfl))) (Or.inl (hw _ (List.mem_of_getElem? (i := 56) rfl))) (by decide) (t := .int) (t' := .int) (by decide) (by decide)
theorem own_sn371 {Z : State} {a0 : Array Value} (hw : ∀ d ∈ tables_1, d.before a0 Z = true) : Jvm.RoadKit.slotOf Z "com/example/reachability/reachability/CandidateList" "numbers" "[I" ≠ Jvm.RoadKit.slotOf Z "com/example/reachability/reachability/CandidateList" "firstOnly" "Z" := slot_ne (Or.inr (hw _ (List.mem_of_getElem? (i := 19) rfl))) (Or.inl (hw _ (List.mem_of_getElem? (i := 48) rfl))) (by decide) (t := (.array .int)) (t' := .boolean) (by decide) (by decide)
theorem own_sn372 {Z : State} {a0 : Array Value} (hw : ∀ d ∈ tables_1, d.before a0 Z = true) : Jvm.RoadKit.slotOf Z "com/example/reachability/reachability/CandidateList" "elements" "[I" ≠ Jvm.RoadKit.slotOf Z "com/example/reachability/reachability/CandidateList" "firstOnly" "Z" := slot_ne (Or.inr (hw _ (List.mem_of_getElem? (i := 21) rfl))) (Or.inl (hw _ (List.mem_of_getElem? (i := 48) rfl))) (by decide) (t := (.array .int)) (t' := .boolean) (by decide) (by decide)
theorem own_sn373 {Z : State} {a0 : Array Value} (hw : ∀ d ∈ tables_1, d.before a0 Z = true) : Jvm.RoadKit.slotOf Z "com/example/reachability/reachability/CandidateList" "foundIn" "[I" ≠ Jvm.RoadKit.slotOf Z "com/example/reachability/reachability/CandidateList" "firstOnly" "Z" := slot_ne (Or.inr (hw _ (List.mem_of_getElem? (i := 23) rfl))) (Or.inl (hw _ (List.mem_of_getElem? (i := 48) rfl))) (by decide) (t := (.array .int)) (t' := .boolean) (by decide) (by decide)
theorem own_sn374 {Z : State} {a0 : Array Value} (hw : ∀ d ∈ tables_1, d.before a0 Z = true) : Jvm.RoadKit.slotOf Z "com/example/reachability/reachability/CandidateList" "next" "[I" ≠ Jvm.RoadKit.slotOf Z "com/example/reachability/reachability/CandidateList" "firstOnly" "Z" := slot_ne (Or.inr (hw _ (List.mem_of_getElem? (i := 25) rfl))) (Or.inl (hw _ (List.mem_of_getElem? (i := 48) rfl))) (by decide) (t := (.array .int)) (t' := .boolean) (by decide) (by decide)
theorem own_sn375 {Z : State} {a0 : Array Value} (hw : ∀ d ∈ tables_1, d.before a0 Z = true) : Jvm.RoadKit.slotOf Z "com/example/reachability/reachability/CandidateList" "found" "[I" ≠ Jvm.RoadKit.slotOf Z "com/example/reachability/reachability/CandidateList" "firstOnly" "Z" := slot_ne (Or.inr (hw _ (List.mem_of_getElem? (i := 27) rfl))) (Or.inl (hw _ (List.mem_of_getElem? (i := 48) rfl))) (by decide) (t := (.array .int)) (t' := .boolean) (by decide) (by decide)
theorem own_sn376 {Z : State} {a0 : Array Value} (hw : ∀ d ∈ tables_1, d.before a0 Z = true) : Jvm.RoadKit.slotOf Z "com/example/reachability/reachability/CandidateList" "bucketShift" "I" ≠ Jvm.RoadKit.slotOf Z "com/example/reachability/reachability/CandidateList" "firstOnly" "Z" := slot_ne (Or.inr (hw _ (List.mem_of_getElem? (i := 36) rfl))) (Or.inl (hw _ (List.mem_of_getElem? (i := 48) rfl))) (by decide) (t := .int) (t' := .boolean) (by decide) (by decide)
theorem own_sn377 {Z : State} {a0 : Array Value} (hw : ∀ d ∈ tables_1, d.before a0 Z = true) : Jvm.RoadKit.slotOf Z "com/example/reachability/reachability/CandidateList" "bucketStart" "[I" ≠ Jvm.RoadKit.slotOf Z "com/example/reachability/reachability/CandidateList" "firstOnly" "Z" := slot_ne (Or.inr (hw _ (List.mem_of_getElem? (i := 41) rfl))) (Or.inl (hw _ (List.mem_of_getElem? (i := 48) rfl))) (by decide) (t := (.array .int)) (t' := .boolean) (by decide) (by decide)
theorem own_sn378 {Z : State} {a0 : Array Value} (hw : ∀ d ∈ tables_1, d.before a0 Z = true) : Jvm.RoadKit.slotOf Z "com/example/reachability/reachability/CandidateList" "search" "I" ≠ Jvm.RoadKit.slotOf Z "com/example/reachability/reachability/CandidateList" "firstOnly" "Z" := slot_ne (Or.inl (hw _ (List.mem_of_getElem? (i := 15) rfl))) (Or.inl (hw _ (List.mem_of_getElem? (i := 48) rfl))) (by decide) (t := .int) (t' := .boolean) (by decide) (by decide)
theorem own_sn379 {Z : State} {a0 : Array Value} (hw : ∀ d ∈ tables_1, d.before a0 Z = true) : Jvm.RoadKit.slotOf Z "com/example/reachability/reachability/CandidateList" "foundCount" "I" ≠ Jvm.RoadKit.slotOf Z "com/example/reachability/reachability/CandidateList" "firstOnly" "Z" := slot_ne (Or.inl (hw _ (List.mem_of_getElem? (i := 56) rfl))) (Or.inl (hw _ (List.mem_of_getElem? (i := 48) rfl))) (by decide) (t := .int) (t' := .boolean) (by decide) (by decide)
theorem own_sn380 {Z : State} {a0 : Array Value} (hw : ∀ d ∈ tables_1, d.before a0 Z = true) : Jvm.RoadKit.slotOf Z "com/example/reachability/reachability/CandidateList" "forRuns" "Z" ≠ Jvm.RoadKit.slotOf Z "com/example/reachability/reachability/CandidateList" "firstOnly" "Z" := slot_ne (Or.inl (hw _ (List.mem_of_getElem? (i := 58) rfl))) (Or.inl (hw _ (List.mem_of_getElem? (i := 48) rfl))) (by decide) (t := .boolean) (t' := .boolean) (by decide) (by decide)
theorem own_sn381 {Z : State} {a0 : Array Value} (hw : ∀ d ∈ tables_1, d.before a0 Z = true) : Jvm.RoadKit.slotOf Z "com/example/reachability/reachability/CandidateList" "runsLength" "I" ≠ Jvm.RoadKit.slotOf Z "com/example/reachability/reachability/CandidateList" "firstOnly" "Z" := slot_ne (Or.inl (hw _ (List.mem_of_getElem? (i := 60) rfl))) (Or.inl (hw _ (List.mem_of_getElem? (i := 48) rfl))) (by decide) (t := .int) (t' := .boolean) (by decide) (by decide)
theorem own_sn382 {Z : State} {a0 : Array Value} (hw : ∀ d ∈ tables_1, d.before a0 Z = true) : Jvm.RoadKit.slotOf Z "com/example/reachability/reachability/CandidateList" "numbers" "[I" ≠ Jvm.RoadKit.slotOf Z "com/example/reachability/reachability/CandidateList" "forRuns" "Z" := slot_ne (Or.inr (hw _ (List.mem_of_getElem? (i := 19) rfl))) (Or.inl (hw _ (List.mem_of_getElem? (i := 58) rfl))) (by decide) (t := (.array .int)) (t' := .boolean) (by decide) (by decide)
theorem own_sn383 {Z : State} {a0 : Array Value} (hw : ∀ d ∈ tables_1, d.before a0 Z = true) : Jvm.RoadKit.slotOf Z "com/example/reachability/reachability/CandidateList" "elements" "[I" ≠ Jvm.RoadKit.slotOf Z "com/example/reachability/reachability/CandidateList" "forRuns" "Z" := slot_ne (Or.inr (hw _ (List.mem_of_getElem? (i := 21) rfl))) (Or.inl (hw _ (List.mem_of_getElem? (i := 58) rfl))) (by decide) (t := (.array .int)) (t' := .boolean) (by decide) (by decide)
theorem own_sn384 {Z : State} {a0 : Array Value} (hw : ∀ d ∈ tables_1, d.before a0 Z = true) : Jvm.RoadKit.slotOf Z "com/example/reachability/reachability/CandidateList" "foundIn" "[I" ≠ Jvm.RoadKit.slotOf Z "com/example/reachability/reachability/CandidateList" "forRuns" "Z" := slot_ne (Or.inr (hw _ (List.mem_of_getElem? (i := 23) rfl))) (Or.inl (hw _ (List.mem_of_getElem? (i := 58) rfl))) (by decide) (t := (.array .int)) (t' := .boolean) (by decide) (by decide)
theorem own_sn385 {Z : State} {a0 : Array Value} (hw : ∀ d ∈ tables_1, d.before a0 Z = true) : Jvm.RoadKit.slotOf Z "com/example/reachability/reachability/CandidateList" "next" "[I" ≠ Jvm.RoadKit.slotOf Z "com/example/reachability/reachability/CandidateList" "forRuns" "Z" := slot_ne (Or.inr (hw _ (List.mem_of_getElem? (i := 25) rfl))) (Or.inl (hw _ (List.mem_of_getElem? (i := 58) rfl))) (by decide) (t := (.array .int)) (t' := .boolean) (by decide) (by decide)
theorem own_sn386 {Z : State} {a0 : Array Value} (hw : ∀ d ∈ tables_1, d.before a0 Z = true) : Jvm.RoadKit.slotOf Z "com/example/reachability/reachability/CandidateList" "found" "[I" ≠ Jvm.RoadKit.slotOf Z "com/example/reachability/reachability/CandidateList" "forRuns" "Z" := slot_ne (Or.inr (hw _ (List.mem_of_getElem? (i := 27) rfl))) (Or.inl (hw _ (List.mem_of_getElem? (i := 58) rfl))) (by decide) (t := (.array .int)) (t' := .boolean) (by decide) (by decide)
theorem own_sn387 {Z : State} {a0 : Array Value} (hw : ∀ d ∈ tables_1, d.before a0 Z = true) : Jvm.RoadKit.slotOf Z "com/example/reachability/reachability/CandidateList" "bucketShift" "I" ≠ Jvm.RoadKit.slotOf Z "com/example/reachability/reachability/CandidateList" "forRuns" "Z" := slot_ne (Or.inr (hw _ (List.mem_of_getElem? (i := 36) rfl))) (Or.inl (hw _ (List.mem_of_getElem? (i := 58) rfl))) (by decide) (t := .int) (t' := .boolean) (by decide) (by decide)
theorem own_sn388 {Z : State} {a0 : Array Value} (hw : ∀ d ∈ tables_1, d.before a0 Z = true) : Jvm.RoadKit.slotOf Z "com/example/reachability/reachability/CandidateList" "bucketStart" "[I" ≠ Jvm.RoadKit.slotOf Z "com/example/reachability/reachability/CandidateList" "forRuns" "Z" := slot_ne (Or.inr (hw _ (List.mem_of_getElem? (i := 41) rfl))) (Or.inl (hw _ (List.mem_of_getElem? (i := 58) rfl))) (by decide) (t := (.array .int)) (t' := .boolean) (by decide) (by decide)
theorem own_sn389 {Z : State} {a0 : Array Value} (hw : ∀ d ∈ tables_1, d.before a0 Z = true) : Jvm.RoadKit.slotOf Z "com/example/reachability/reachability/CandidateList" "search" "I" ≠ Jvm.RoadKit.slotOf Z "com/example/reachability/reachability/CandidateList" "forRuns" "Z" := slot_ne (Or.inl (hw _ (List.mem_of_getElem? (i := 15) rfl))) (Or.inl (hw _ (List.mem_of_getElem? (i := 58) rfl))) (by decide) (t := .int) (t' := .boolean) (by decide) (by decide)
theorem own_sn390 {Z : State} {a0 : Array Value} (hw : ∀ d ∈ tables_1, d.before a0 Z = true) : Jvm.RoadKit.slotOf Z "com/example/reachability/reachability/CandidateList" "foundCount" "I" ≠ Jvm.RoadKit.slotOf Z "com/example/reachability/reachability/CandidateList" "forRuns" "Z" := slot_ne (Or.inl (hw _ (List.mem_of_getElem? (i := 56) rfl))) (Or.inl (hw _ (List.mem_of_getElem? (i := 58) rfl))) (by decide) (t := .int) (t' := .boolean) (by decide) (by decide)
theorem own_sn391 {Z : State} {a0 : Array Value} (hw : ∀ d ∈ tables_1, d.before a0 Z = true) : Jvm.RoadKit.slotOf Z "com/example/reachability/reachability/CandidateList" "firstOnly" "Z" ≠ Jvm.RoadKit.slotOf Z "com/example/reachability/reachability/CandidateList" "forRuns" "Z" := slot_ne (Or.inl (hw _ (List.mem_of_getElem? (i := 48) rfl))) (Or.inl (hw _ (List.mem_of_getElem? (i := 58) rfl))) (by decide) (t := .boolean) (t' := .boolean) (by decide) (by decide)
theorem own_sn392 {Z : State} {a0 : Array Value} (hw : ∀ d ∈ tables_1, d.before a0 Z = true) : Jvm.RoadKit.slotOf Z "com/example/reachability/reachability/CandidateList" "runsLength" "I" ≠ Jvm.RoadKit.slotOf Z "com/example/reachability/reachability/CandidateList" "forRuns" "Z" := slot_ne (Or.inl (hw _ (List.mem_of_getElem? (i := 60) rfl))) (Or.inl (hw _ (List.mem_of_getElem? (i := 58) rfl))) (by decide) (t := .int) (t' := .boolean) (by decide) (by decide)
theorem own_sn393 {Z : State} {a0 : Array Value} (hw : ∀ d ∈ tables_1, d.before a0 Z = true) : Jvm.RoadKit.slotOf Z "com/example/reachability/reachability/CandidateList" "numbers" "[I" ≠ Jvm.RoadKit.slotOf Z "com/example/reachability/reachability/CandidateList" "runsLength" "I" := slot_ne (Or.inr (hw _ (List.mem_of_getElem? (i := 19) rfl))) (Or.inl (hw _ (List.mem_of_getElem? (i := 60) rfl))) (by decide) (t := (.array .int)) (t' := .int) (by decide) (by decide)
theorem own_sn394 {Z : State} {a0 : Array Value} (hw : ∀ d ∈ tables_1, d.before a0 Z = true) : Jvm.RoadKit.slotOf Z "com/example/reachability/reachability/CandidateList" "elements" "[I" ≠ Jvm.RoadKit.slotOf Z "com/example/reachability/reachability/CandidateList" "runsLength" "I" := slot_ne (Or.inr (hw _ (List.mem_of_getElem? (i := 21) rfl))) (Or.inl (hw _ (List.mem_of_getElem? (i := 60) rfl))) (by decide) (t := (.array .int)) (t' := .int) (by decide) (by decide)
theorem own_sn395 {Z : State} {a0 : Array Value} (hw : ∀ d ∈ tables_1, d.before a0 Z = true) : Jvm.RoadKit.slotOf Z "com/example/reachability/reachability/CandidateList" "foundIn" "[I" ≠ Jvm.RoadKit.slotOf Z "com/example/reachability/reachability/CandidateList" "runsLength" "I" := slot_ne (Or.inr (hw _ (List.mem_of_getElem? (i := 23) rfl))) (Or.inl (hw _ (List.mem_of_getElem? (i := 60) rfl))) (by decide) (t := (.array .int)) (t' := .int) (by decide) (by decide)
theorem own_sn396 {Z : State} {a0 : Array Value} (hw : ∀ d ∈ tables_1, d.before a0 Z = true) : Jvm.RoadKit.slotOf Z "com/example/reachability/reachability/CandidateList" "next" "[I" ≠ Jvm.RoadKit.slotOf Z "com/example/reachability/reachability/CandidateList" "runsLength" "I" := slot_ne (Or.inr (hw _ (List.mem_of_getElem? (i := 25) rfl))) (Or.inl (hw _ (List.mem_of_getElem? (i := 60) rfl))) (by decide) (t := (.array .int)) (t' := .int) (by decide) (by decide)
theorem own_sn397 {Z : State} {a0 : Array Value} (hw : ∀ d ∈ tables_1, d.before a0 Z = true) : Jvm.RoadKit.slotOf Z "com/example/reachability/reachability/CandidateList" "found" "[I" ≠ Jvm.RoadKit.slotOf Z "com/example/reachability/reachability/CandidateList" "runsLength" "I" := slot_ne (Or.inr (hw _ (List.mem_of_getElem? (i := 27) rfl))) (Or.inl (hw _ (List.mem_of_getElem? (i := 60) rfl))) (by decide) (t := (.array .int)) (t' := .int) (by decide) (by decide)
theorem own_sn398 {Z : State} {a0 : Array Value} (hw : ∀ d ∈ tables_1, d.before a0 Z = true) : Jvm.RoadKit.slotOf Z "com/example/reachability/reachability/CandidateList" "bucketShift" "I" ≠ Jvm.RoadKit.slotOf Z "com/example/reachability/reachability/CandidateList" "runsLength" "I" := slot_ne (Or.inr (hw _ (List.mem_of_getElem? (i := 36) rfl))) (Or.inl (hw _ (List.mem_of_getElem? (i := 60) rfl))) (by decide) (t := .int) (t' := .int) (by decide) (by decide)
theorem own_sn399 {Z : State} {a0 : Array Value} (hw : ∀ d ∈ tables_1, d.before a0 Z = true) : Jvm.RoadKit.slotOf Z "com/example/reachability/reachability/CandidateList" "bucketStart" "[I" ≠ Jvm.RoadKit.slotOf Z "com/example/reachability/reachability/CandidateList" "runsLength" "I" := slot_ne (Or.inr (hw _ (List.mem_of_getElem? (i := 41) rfl))) (Or.inl (hw _ (List.mem_of_getElem? (i := 60) rfl))) (by decide) (t := (.array .int)) (t' := .int) (by decide) (by decide)
theorem own_sn400 {Z : State} {a0 : Array Value} (hw : ∀ d ∈ tables_1, d.before a0 Z = true) : Jvm.RoadKit.slotOf Z "com/example/reachability/reachability/CandidateList" "search" "I" ≠ Jvm.RoadKit.slotOf Z "com/example/reachability/reachability/CandidateList" "runsLength" "I" := slot_ne (Or.inl (hw _ (List.mem_of_getElem? (i := 15) rfl))) (Or.inl (hw _ (List.mem_of_getElem? (i := 60) rfl))) (by decide) (t := .int) (t' := .int) (by decide) (by decide)
theorem own_sn401 {Z : State} {a0 : Array Value} (hw : ∀ d ∈ tables_1, d.before a0 Z = true) : Jvm.RoadKit.slotOf Z "com/example/reachability/reachability/CandidateList" "foundCount" "I" ≠ Jvm.RoadKit.slotOf Z "com/example/reachability/reachability/CandidateList" "runsLength" "I" := slot_ne (Or.inl (hw _ (List.mem_of_getElem? (i := 56) rfl))) (Or.inl (hw _ (List.mem_of_getElem? (i := 60) rfl))) (by decide) (t := .int) (t' := .int) (by decide) (by decide)
theorem own_sn402 {Z : State} {a0 : Array Value} (hw : ∀ d ∈ tables_1, d.before a0 Z = true) : Jvm.RoadKit.slotOf Z "com/example/reachability/reachability/CandidateList" "firstOnly" "Z" ≠ Jvm.RoadKit.slotOf Z "com/example/reachability/reachability/CandidateList" "runsLength" "I" := slot_ne (Or.inl (hw _ (List.mem_of_getElem? (i := 48) rfl))) (Or.inl (hw _ (List.mem_of_getElem? (i := 60) rfl))) (by decide) (t := .boolean) (t' := .int) (by decide) (by decide)
theorem own_sn403 {Z : State} {a0 : Array Value} (hw : ∀ d ∈ tables_1, d.before a0 Z = true) : Jvm.RoadKit.slotOf Z "com/example/reachability/reachability/CandidateList" "forRuns" "Z" ≠ Jvm.RoadKit.slotOf Z "com/example/reachability/reachability/CandidateList" "runsLength" "I" := slot_ne (Or.inl (hw _ (List.mem_of_getElem? (i := 58) rfl))) (Or.inl (hw _ (List.mem_of_getElem? (i := 60) rfl))) (by decide) (t := .boolean) (t' := .int) (by decide) (by decide)
theorem d8_0 : decode prog_2_method_7_code 0 = .ok (.aload_n 0, 1) := by decide +kernel
theorem d8_1 : decode prog_2_method_7_code 1 = .ok (.dup, 1) := by decide +kernel
theorem d8_2 : decode prog_2_method_7_code 2 = .ok (.getfield 7, 3) := by decide +kernel
theorem d8_5 : decode prog_2_method_7_code 5 = .ok (.iconst 1, 1) := by decide +kernel
theorem d8_6 : decode prog_2_method_7_code 6 = .ok (.iadd, 1) := by decide +kernel
theorem d8_7 : decode prog_2_method_7_code 7 = .ok (.putfield 7, 3) := by decide +kernel
theorem d8_10 : decode prog_2_method_7_code 10 = .ok (.aload_n 0, 1) := by decide +kernel
theorem d8_11 : decode prog_2_method_7_code 11 = .ok (.getfield 7, 3) := by decide +kernel
theorem d8_14 : decode prog_2_method_7_code 14 = .ok (.ldc 53, 2) := by decide +kernel
theorem d8_16 : decode prog_2_method_7_code 16 = .ok (.if_icmp .ne 16, 3) := by decide +kernel
theorem d8_32 : decode prog_2_method_7_code 32 = .ok (.aload_n 0, 1) := by decide +kernel
theorem d8_33 : decode prog_2_method_7_code 33 = .ok (.iconst 0, 1) := by decide +kernel
theorem d8_34 : decode prog_2_method_7_code 34 = .ok (.putfield 60, 3) := by decide +kernel
theorem d8_37 : decode prog_2_method_7_code 37 = .ok (.aload_n 0, 1) := by decide +kernel
theorem d8_38 : decode prog_2_method_7_code 38 = .ok (.iload_n 1, 1) := by decide +kernel
theorem d8_39 : decode prog_2_method_7_code 39 = .ok (.putfield 63, 3) := by decide +kernel
theorem d8_42 : decode prog_2_method_7_code 42 = .ok (.aload_n 0, 1) := by decide +kernel
theorem d8_43 : decode prog_2_method_7_code 43 = .ok (.iconst 0, 1) := by decide +kernel
theorem d8_44 : decode prog_2_method_7_code 44 = .ok (.putfield 67, 3) := by decide +kernel
theorem d8_47 : decode prog_2_method_7_code 47 = .ok (.aload_n 0, 1) := by decide +kernel
theorem d8_48 : decode prog_2_method_7_code 48 = .ok (.iconst 0, 1) := by decide +kernel
theorem d8_49 : decode prog_2_method_7_code 49 = .ok (.putfield 70, 3) := by decide +kernel
theorem d8_52 : decode prog_2_method_7_code 52 = .ok (.return_, 1) := by decide +kernel
theorem pn_8 : plainName "com/example/reachability/reachability/CandidateList" = true := by first | (simp [plainName, overriddenIn]; done) | decide +kernel
theorem ef_8 (m : MethodId) (r0 : Addr) (p1 : Int32) : entryFrame m #[(.ref r0), (.int p1)] 2 = mkF m 0 #[.val (.ref r0), .val (.int p1)] [] := by first | (simp [entryFrame, mkF, argsToLocals, Value.category]; done) | rfl
def rm8_room : Room := { frames := 0, cells := 0, slots := 0, locals := 0 }
def Qrm8 (Z : State) (r0 : Addr) (p1 : Int32) (xN : Addr) (xE : Addr) (xF : Addr) (xX : Addr) (xD : Addr) (sh : Int32) (xB : Addr) (se : Int32) (fc : Int32) (fo : Int32) (fr : Int32) (rl : Int32) (h0 : Heap) (n0 : Nat) (v : Option Value) (h : Heap) (L : List Loc) : Prop := v = none ∧ Fr n0 L ∧ Keep h0 h [r0] ∧ Fld Z h r0 "com/example/reachability/reachability/CandidateList" "numbers" "[I" (.ref xN) ∧ Fld Z h r0 "com/example/reachability/reachability/CandidateList" "elements" "[I" (.ref xE) ∧ Fld Z h r0 "com/example/reachability/reachability/CandidateList" "foundIn" "[I" (.ref xF) ∧ Fld Z h r0 "com/example/reachability/reachability/CandidateList" "next" "[I" (.ref xX) ∧ Fld Z h r0 "com/example/reachability/reachability/CandidateList" "found" "[I" (.ref xD) ∧ Fld Z h r0 "com/example/reachability/reachability/CandidateList" "bucketShift" "I" (.int sh) ∧ Fld Z h r0 "com/example/reachability/reachability/CandidateList" "bucketStart" "[I" (.ref xB) ∧ Exa Z h r0 "com/example/reachability/reachability/CandidateList" ∧ Fld Z h r0 "com/example/reachability/reachability/CandidateList" "search" "I" (.int (se + (1 : Int32))) ∧ Fld Z h r0 "com/example/reachability/reachability/CandidateList" "foundCount" "I" (.int (0 : Int32)) ∧ Fld Z h r0 "com/example/reachability/reachability/CandidateList" "firstOnly" "Z" (.int (p1 &&& 1)) ∧ Fld Z h r0 "com/example/reachability/reachability/CandidateList" "forRuns" "Z" (.int (0 : Int32)) ∧ Fld Z h r0 "com/example/reachability/reachability/CandidateList" "runsLength" "I" (.int (0 : Int32))
set_option maxRecDepth 65536 in
set_option maxHeartbeats 40000000 in
theorem rm8 (l : Launch) (Z : State) (a0 : Array Value) (hw : ∀ d ∈ tables_1, d.before a0 Z = true) (ws : List Jvm.Cond) (r0 : Addr) (p1 : Int32) (xN : Addr) (xE : Addr) (xF : Addr) (xX : Addr) (xD : Addr) (sh : Int32) (xB : Addr) (se : Int32) (fc : Int32) (fo : Int32) (fr : Int32) (rl : Int32) (h0 : Heap) (n0 : Nat) (Z0 : n0 ≤ h0.size) (F_numbers_r0_0 : Fld Z h0 r0 "com/example/reachability/reachability/CandidateList" "numbers" "[I" (.ref xN)) (F_elements_r0_0 : Fld Z h0 r0 "com/example/reachability/reachability/CandidateList" "elements" "[I" (.ref xE)) (F_foundIn_r0_0 : Fld Z h0 r0 "com/example/reachability/reachability/CandidateList" "foundIn" "[I" (.ref xF)) (F_next_r0_0 : Fld Z h0 r0 "com/example/reachability/reachability/CandidateList" "next" "[I" (.ref xX)) (F_found_r0_0 : Fld Z h0 r0 "com/example/reachability/reachability/CandidateList" "found" "[I" (.ref xD)) (F_bucketShift_r0_0 : Fld Z h0 r0 "com/example/reachability/reachability/CandidateList" "bucketShift" "I" (.int sh)) (F_bucketStart_r0_0 : Fld Z h0 r0 "com/example/reachability/reachability/CandidateList" "bucketStart" "[I" (.ref xB)) (E_r0_0 : Exa Z h0 r0 "com/example/reachability/reachability/CandidateList") (F_search_r0_0 : Fld Z h0 r0 "com/example/reachability/reachability/CandidateList" "search" "I" (.int se)) (F_foundCount_r0_0 : Fld Z h0 r0 "com/example/reachability/reachability/CandidateList" "foundCount" "I" (.int fc)) (F_firstOnly_r0_0 : Fld Z h0 r0 "com/example/reachability/reachability/CandidateList" "firstOnly" "Z" (.int fo)) (F_forRuns_r0_0 : Fld Z h0 r0 "com/example/reachability/reachability/CandidateList" "forRuns" "Z" (.int fr)) (F_runsLength_r0_0 : Fld Z h0 r0 "com/example/reachability/reachability/CandidateList" "runsLength" "I" (.int rl)) (ge_r0 : n0 ≤ r0) (hp : ¬ (se + (1 : Int32)) = (2147483647 : Int32)) :
    MetFree l (⟨"com/example/reachability/reachability/CandidateList", "reset", "(Z)V"⟩ : MethodName) (head1 (Jvm.Cond.code (⟨"com/example/reachability/reachability/CandidateList", "reset", "(Z)V"⟩ : MethodName) prog_2_method_7_code 2 none :: ws) rm8_room) (fun a U => a = #[(.ref r0), (.int p1)] ∧ Z.Warmed39 U.vm ∧ U.heap = h0) (fun _ _ _ _ _ => True) (fun _ U o U' => ∃ v L, o = .returned v ∧ Qrm8 Z r0 p1 xN xE xF xX xD sh xB se fc fo fr rl h0 n0 v U'.heap L ∧ FrameEnd U o U' L rm8_room.cells rm8_room.slots) := by
  refine MetFree.of_bodySF (plainFor_of_name pn_8) hisR ?_
  intro p e s m args below meth c s₁ Bd hml0 hP hK
  obtain ⟨rfl, hZ, hh⟩ := hP
  have hx := Bd.exec
  have hby := Bd.bytes
  have hml : c.maxLocals = 2 := hml0
  have hown : s.vm.findClass "com/example/reachability/reachability/CandidateList" = some m.cls := findClass_of_methodNamed Bd.named
  have hnm := (name_of_methodNamed Bd.named Bd.method).1
  have hlk : meth.locks = false := BodyLoose.notSynchronized Bd
  have X0 : Stand p l e rm8_room s m #[(.ref r0), (.int p1)] below meth c s₁ [] 0 0 := Stand.of_body Bd
  have e0 : s₁.heap = h0 := by rw [← hh, Bd.state]; rfl
  have N0 := Fr.nil n0
  show own_Fin p.tables e below s (Qrm8 Z r0 p1 xN xE xF xX xD sh xB se fc fo fr rl h0 n0) rm8_room.cells rm8_room.slots (s₁.setTop (entryFrame m #[(.ref r0), (.int p1)] 2))
  rw [ef_8]
  show own_Fin _ _ _ _ _ _ _ (s₁.setTop (mkF m 0 #[.val (.ref r0), .val (.int p1)] []))
  have K0 := Keep.refl h0 [r0]
  refine own_go (fun _ k => XS.aloadN X0.here hx rfl (hb hby d8_0) rfl rfl k) ?_
  refine own_go (fun _ k => XS.dup X0.here hx rfl (hb hby d8_1) rfl rfl k) ?_
  obtain ⟨T1, X1, e1, st1⟩ := getF X0 hx hZ hown (host := "") (Or.inl (hw _ (List.mem_of_getElem? (i := 14) rfl))) Via.refl e0 F_search_r0_0 (g := (mkF m 2 #[.val (.ref r0), .val (.int p1)] [(.ref r0), (.ref r0)])) rfl rfl (hb hby d8_2)
  refine own_go (fun tg k => st1 tg k) ?_
  show own_Fin _ _ _ _ _ _ _ (T1.setTop (mkF m 5 #[.val (.ref r0), .val (.int p1)] [(.int se), (.ref r0)]))
  refine own_go (fun _ k => XS.iconst X1.here hx rfl (hb hby d8_5) k) ?_
  refine own_go (fun _ k => XS.iadd X1.here hx rfl (hb hby d8_6) rfl k) ?_
  show own_Fin _ _ _ _ _ _ _ (T1.setTop (mkF m 7 #[.val (.ref r0), .val (.int p1)] [(.int (se + (1 : Int32))), (.ref r0)]))
  obtain ⟨T2, h2, X2, e2, W2, st2⟩ := putF X1 hx hZ hown (host := "") (Or.inl (hw _ (List.mem_of_getElem? (i := 14) rfl))) Via.refl e1 F_search_r0_0 E_r0_0 (Or.inl (hw _ (List.mem_of_getElem? (i := 15) rfl))) (hw _ (List.mem_of_getElem? (i := 5) rfl)) (ty := .int) (by decide) rfl rfl (g := (mkF m 7 #[.val (.ref r0), .val (.int p1)] [(.int (se + (1 : Int32))), (.ref r0)])) rfl rfl (hb hby d8_7)
  have F_numbers_r0_2 := F_numbers_r0_0.other W2 (Or.inr (own_sn101 hw))
  have F_elements_r0_2 := F_elements_r0_0.other W2 (Or.inr (own_sn102 hw))
  have F_foundIn_r0_2 := F_foundIn_r0_0.other W2 (Or.inr (own_sn103 hw))
  have F_next_r0_2 := F_next_r0_0.other W2 (Or.inr (own_sn104 hw))
  have F_found_r0_2 := F_found_r0_0.other W2 (Or.inr (own_sn105 hw))
  have F_bucketShift_r0_2 := F_bucketShift_r0_0.other W2 (Or.inr (own_sn106 hw))
  have F_bucketStart_r0_2 := F_bucketStart_r0_0.other W2 (Or.inr (own_sn107 hw))
  have E_r0_2 := E_r0_0.wr W2
  have F_foundCount_r0_2 := F_foundCount_r0_0.other W2 (Or.inr (own_sn108 hw))
  have F_firstOnly_r0_2 := F_firstOnly_r0_0.other W2 (Or.inr (own_sn109 hw))
  have F_forRuns_r0_2 := F_forRuns_r0_0.other W2 (Or.inr (own_sn110 hw))
  have F_runsLength_r0_2 := F_runsLength_r0_0.other W2 (Or.inr (own_sn111 hw))
  have K2 := K0.wr W2 (Or.inl (List.mem_of_getElem? (i := 0) rfl))
  have N2 := Fr.snoc X2 N0 ge_r0
  have Z2 : n0 ≤ h2.size := Nat.le_trans Z0 (Keep.of_wr W2).1
  have F_search_r0_2 := F_search_r0_0.same W2
  refine own_go (fun tg k => st2 tg k) ?_
  show own_Fin _ _ _ _ _ _ _ (T2.setTop (mkF m 10 #[.val (.ref r0), .val (.int p1)] []))
  refine own_go (fun _ k => XS.aloadN X2.here hx rfl (hb hby d8_10) rfl rfl k) ?_
  obtain ⟨T3, X3, e3, st3⟩ := getF X2 hx hZ hown (host := "") (Or.inl (hw _ (List.mem_of_getElem? (i := 14) rfl))) Via.refl e2 F_search_r0_2 (g := (mkF m 11 #[.val (.ref r0), .val (.int p1)] [(.ref r0)])) rfl rfl (hb hby d8_11)
  refine own_go (fun tg k => st3 tg k) ?_
  show own_Fin _ _ _ _ _ _ _ (T3.setTop (mkF m 14 #[.val (.ref r0), .val (.int p1)] [(.int (se + (1 : Int32)))]))
  refine own_go (fun _ k => X3.ldcInt hx hown (mvT hZ (hw _ (List.mem_of_getElem? (i := 54) rfl))) (g := (mkF m 14 #[.val (.ref r0), .val (.int p1)] [(.int (se + (1 : Int32)))])) rfl (hb hby d8_14) _ k) ?_
  show own_Fin _ _ _ _ _ _ _ (T3.setTop (mkF m 16 #[.val (.ref r0), .val (.int p1)] [(.int (2147483647 : Int32)), (.int (se + (1 : Int32)))]))
  have hc16 : ¬ ((se + (1 : Int32)) = (2147483647 : Int32)) := hp
  refine own_go (fun _ k => XS.icmpYes X3.here hx rfl (pc0 := 16) (pc' := 32) rfl (hb hby d8_16) rfl (feq hc16).2 (by decide) (by decide) k) ?_
  show own_Fin _ _ _ _ _ _ _ (T3.setTop (mkF m 32 #[.val (.ref r0), .val (.int p1)] []))
  refine own_go (fun _ k => XS.aloadN X3.here hx rfl (hb hby d8_32) rfl rfl k) ?_
  refine own_go (fun _ k => XS.iconst X3.here hx rfl (hb hby d8_33) k) ?_
  obtain ⟨T4, h4, X4, e4, W4, st4⟩ := putF X3 hx hZ hown (host := "") (Or.inl (hw _ (List.mem_of_getElem? (i := 55) rfl))) Via.refl e3 F_foundCount_r0_2 E_r0_2 (Or.inl (hw _ (List.mem_of_getElem? (i := 56) rfl))) (hw _ (List.mem_of_getElem? (i := 5) rfl)) (ty := .int) (by decide) rfl rfl (g := (mkF m 34 #[.val (.ref r0), .val (.int p1)] [(.int (0 : Int32)), (.ref r0)])) rfl rfl (hb hby d8_34)
  have F_numbers_r0_4 := F_numbers_r0_2.other W4 (Or.inr (own_sn360 hw))
  have F_elements_r0_4 := F_elements_r0_2.other W4 (Or.inr (own_sn361 hw))
  have F_foundIn_r0_4 := F_foundIn_r0_2.other W4 (Or.inr (own_sn362 hw))
  have F_next_r0_4 := F_next_r0_2.other W4 (Or.inr (own_sn363 hw))
  have F_found_r0_4 := F_found_r0_2.other W4 (Or.inr (own_sn364 hw))
  have F_bucketShift_r0_4 := F_bucketShift_r0_2.other W4 (Or.inr (own_sn365 hw))
  have F_bucketStart_r0_4 := F_bucketStart_r0_2.other W4 (Or.inr (own_sn366 hw))
  have E_r0_4 := E_r0_2.wr W4
  have F_search_r0_4 := F_search_r0_2.other W4 (Or.inr (own_sn367 hw))
  have F_firstOnly_r0_4 := F_firstOnly_r0_2.other W4 (Or.inr (own_sn368 hw))
  have F_forRuns_r0_4 := F_forRuns_r0_2.other W4 (Or.inr (own_sn369 hw))
  have F_runsLength_r0_4 := F_runsLength_r0_2.other W4 (Or.inr (own_sn370 hw))
  have K4 := K2.wr W4 (Or.inl (List.mem_of_getElem? (i := 0) rfl))
  have N4 := Fr.snoc X4 N2 ge_r0
  have Z4 : n0 ≤ h4.size := Nat.le_trans Z2 (Keep.of_wr W4).1
  have F_foundCount_r0_4 := F_foundCount_r0_2.same W4
  refine own_go (fun tg k => st4 tg k) ?_
  show own_Fin _ _ _ _ _ _ _ (T4.setTop (mkF m 37 #[.val (.ref r0), .val (.int p1)] []))
  refine own_go (fun _ k => XS.aloadN X4.here hx rfl (hb hby d8_37) rfl rfl k) ?_
  refine own_go (fun _ k => XS.iloadN X4.here hx rfl (hb hby d8_38) rfl k) ?_
  obtain ⟨T5, h5, X5, e5, W5, st5⟩ := putFN X4 hx hZ hown (hw _ (List.mem_of_getElem? (i := 47) rfl)) Via.refl e4 F_firstOnly_r0_4 E_r0_4 (Or.inl (hw _ (List.mem_of_getElem? (i := 48) rfl))) (hw _ (List.mem_of_getElem? (i := 5) rfl)) (ty := .boolean) (v' := (.int (p1 &&& 1))) (by decide) rfl (fits_nar_bool _) (g := (mkF m 39 #[.val (.ref r0), .val (.int p1)] [(.int p1), (.ref r0)])) rfl rfl (hb hby d8_39)
  have F_numbers_r0_5 := F_numbers_r0_4.other W5 (Or.inr (own_sn371 hw))
  have F_elements_r0_5 := F_elements_r0_4.other W5 (Or.inr (own_sn372 hw))
  have F_foundIn_r0_5 := F_foundIn_r0_4.other W5 (Or.inr (own_sn373 hw))
  have F_next_r0_5 := F_next_r0_4.other W5 (Or.inr (own_sn374 hw))
  have F_found_r0_5 := F_found_r0_4.other W5 (Or.inr (own_sn375 hw))
  have F_bucketShift_r0_5 := F_bucketShift_r0_4.other W5 (Or.inr (own_sn376 hw))
  have F_bucketStart_r0_5 := F_bucketStart_r0_4.other W5 (Or.inr (own_sn377 hw))
  have E_r0_5 := E_r0_4.wr W5
  have F_search_r0_5 := F_search_r0_4.other W5 (Or.inr (own_sn378 hw))
  have F_foundCount_r0_5 := F_foundCount_r0_4.other W5 (Or.inr (own_sn379 hw))
  have F_forRuns_r0_5 := F_forRuns_r0_4.other W5 (Or.inr (own_sn380 hw))
  have F_runsLength_r0_5 := F_runsLength_r0_4.other W5 (Or.inr (own_sn381 hw))
  have K5 := K4.wr W5 (Or.inl (List.mem_of_getElem? (i := 0) rfl))
  have N5 := Fr.snoc X5 N4 ge_r0
  have Z5 : n0 ≤ h5.size := Nat.le_trans Z4 (Keep.of_wr W5).1
  have F_firstOnly_r0_5 := F_firstOnly_r0_4.same W5
  refine own_go (fun tg k => st5 tg k) ?_
  show own_Fin _ _ _ _ _ _ _ (T5.setTop (mkF m 42 #[.val (.ref r0), .val (.int p1)] []))
  refine own_go (fun _ k => XS.aloadN X5.here hx rfl (hb hby d8_42) rfl rfl k) ?_
  refine own_go (fun _ k => XS.iconst X5.here hx rfl (hb hby d8_43) k) ?_
  obtain ⟨T6, h6, X6, e6, W6, st6⟩ := putFN X5 hx hZ hown (hw _ (List.mem_of_getElem? (i := 57) rfl)) Via.refl e5 F_forRuns_r0_5 E_r0_5 (Or.inl (hw _ (List.mem_of_getElem? (i := 58) rfl))) (hw _ (List.mem_of_getElem? (i := 5) rfl)) (ty := .boolean) (v' := (.int (0 : Int32))) (by decide) rfl (by decide) (g := (mkF m 44 #[.val (.ref r0), .val (.int p1)] [(.int (0 : Int32)), (.ref r0)])) rfl rfl (hb hby d8_44)
  have F_numbers_r0_6 := F_numbers_r0_5.other W6 (Or.inr (own_sn382 hw))
  have F_elements_r0_6 := F_elements_r0_5.other W6 (Or.inr (own_sn383 hw))
  have F_foundIn_r0_6 := F_foundIn_r0_5.other W6 (Or.inr (own_sn384 hw))
  have F_next_r0_6 := F_next_r0_5.other W6 (Or.inr (own_sn385 hw))
  have F_found_r0_6 := F_found_r0_5.other W6 (Or.inr (own_sn386 hw))
  have F_bucketShift_r0_6 := F_bucketShift_r0_5.other W6 (Or.inr (own_sn387 hw))
  have F_bucketStart_r0_6 := F_bucketStart_r0_5.other W6 (Or.inr (own_sn388 hw))
  have E_r0_6 := E_r0_5.wr W6
  have F_search_r0_6 := F_search_r0_5.other W6 (Or.inr (own_sn389 hw))
  have F_foundCount_r0_6 := F_foundCount_r0_5.other W6 (Or.inr (own_sn390 hw))
  have F_firstOnly_r0_6 := F_firstOnly_r0_5.other W6 (Or.inr (own_sn391 hw))
  have F_runsLength_r0_6 := F_runsLength_r0_5.other W6 (Or.inr (own_sn392 hw))
  have K6 := K5.wr W6 (Or.inl (List.mem_of_getElem? (i := 0) rfl))
  have N6 := Fr.snoc X6 N5 ge_r0
  have Z6 : n0 ≤ h6.size := Nat.le_trans Z5 (Keep.of_wr W6).1
  have F_forRuns_r0_6 := F_forRuns_r0_5.same W6
  refine own_go (fun tg k => st6 tg k) ?_
  show own_Fin _ _ _ _ _ _ _ (T6.setTop (mkF m 47 #[.val (.ref r0), .val (.int p1)] []))
  refine own_go (fun _ k => XS.aloadN X6.here hx rfl (hb hby d8_47) rfl rfl k) ?_
  refine own_go (fun _ k => XS.iconst X6.here hx rfl (hb hby d8_48) k) ?_
  obtain ⟨T7, h7, X7, e7, W7, st7⟩ := putF X6 hx hZ hown (host := "") (Or.inl (hw _ (List.mem_of_getElem? (i := 59) rfl))) Via.refl e6 F_runsLength_r0_6 E_r0_6 (Or.inl (hw _ (List.mem_of_getElem? (i := 60) rfl))) (hw _ (List.mem_of_getElem? (i := 5) rfl)) (ty := .int) (by decide) rfl rfl (g := (mkF m 49 #[.val (.ref r0), .val (.int p1)] [(.int (0 : Int32)), (.ref r0)])) rfl rfl (hb hby d8_49)
  have F_numbers_r0_7 := F_numbers_r0_6.other W7 (Or.inr (own_sn393 hw))
  have F_elements_r0_7 := F_elements_r0_6.other W7 (Or.inr (own_sn394 hw))
  have F_foundIn_r0_7 := F_foundIn_r0_6.other W7 (Or.inr (own_sn395 hw))
  have F_next_r0_7 := F_next_r0_6.other W7 (Or.inr (own_sn396 hw))
  have F_found_r0_7 := F_found_r0_6.other W7 (Or.inr (own_sn397 hw))
  have F_bucketShift_r0_7 := F_bucketShift_r0_6.other W7 (Or.inr (own_sn398 hw))
  have F_bucketStart_r0_7 := F_bucketStart_r0_6.other W7 (Or.inr (own_sn399 hw))
  have E_r0_7 := E_r0_6.wr W7
  have F_search_r0_7 := F_search_r0_6.other W7 (Or.inr (own_sn400 hw))
  have F_foundCount_r0_7 := F_foundCount_r0_6.other W7 (Or.inr (own_sn401 hw))
  have F_firstOnly_r0_7 := F_firstOnly_r0_6.other W7 (Or.inr (own_sn402 hw))
  have F_forRuns_r0_7 := F_forRuns_r0_6.other W7 (Or.inr (own_sn403 hw))
  have K7 := K6.wr W7 (Or.inl (List.mem_of_getElem? (i := 0) rfl))
  have N7 := Fr.snoc X7 N6 ge_r0
  have Z7 : n0 ≤ h7.size := Nat.le_trans Z6 (Keep.of_wr W7).1
  have F_runsLength_r0_7 := F_runsLength_r0_6.same W7
  refine own_go (fun tg k => st7 tg k) ?_
  show own_Fin _ _ _ _ _ _ _ (T7.setTop (mkF m 52 #[.val (.ref r0), .val (.int p1)] []))
  refine own_retV X7 hx hlk Bd.returns (hb hby d8_52) (Nat.le_of_ble_eq_true rfl) (Nat.le_of_ble_eq_true rfl) ?_
  rw [e7]
  refine ⟨rfl, N7, K7, ?_, ?_, ?_, ?_, ?_, ?_, ?_, E_r0_7, ?_, ?_, ?_, ?_, ?_⟩
  · (exact F_numbers_r0_7)
  · (exact F_elements_r0_7)
  · (exact F_foundIn_r0_7)
  · (exact F_next_r0_7)
  · (exact F_found_r0_7)
  · (exact F_bucketShift_r0_7)
  · (exact F_bucketStart_r0_7)
  · (exact F_search_r0_7)
  · (exact F_foundCount_r0_7)
  · (exact F_firstOnly_r0_7)
  · (exact F_forRuns_r0_7)
  · (exact F_runsLength_r0_7)
theorem own_setne (g : Nat → Int32) (j v : Int32) (n : Nat) (h : n ≠ j.toNatClampNeg) : own_set g j v n = g n := by simp only [own_set, if_neg h]
theorem own_sat0 (fo : Int32) : own_f7 fo (0 : Int32) = (0 : Int32) := by
  simp only [own_f7]
  split
  · rfl
  · rfl
/-- what find needs to know of the buckets -/
def own_okS (p1 sh nB : Int32) (gB gN : Nat → Int32) : Prop := own_okF p1 sh nB gB ∧ ∃ r : Nat, (own_f10 p1 sh nB gB gN).toInt = r ∧ r ≤ 3
theorem own_okS1 {p1 sh nB : Int32} {gB gN : Nat → Int32} (h : own_okS p1 sh nB gB gN) : own_okF p1 sh nB gB := h.1
theorem own_first3 {p1 sh nB : Int32} {gB gN : Nat → Int32} (h : own_okS p1 sh nB gB gN) (n0 : ¬ own_f10 p1 sh nB gB gN = (0 : Int32)) (n1 : ¬ own_f10 p1 sh nB gB gN = (1 : Int32)) (n2 : ¬ own_f10 p1 sh nB gB gN = (2 : Int32)) : own_f10 p1 sh nB gB gN = (3 : Int32) := by
  obtain ⟨-, r, hr, h3⟩ := h
  have m0 : (own_f10 p1 sh nB gB gN).toInt ≠ 0 := fun z => n0 (Int32.toInt_inj.mp z)
  have m1 : (own_f10 p1 sh nB gB gN).toInt ≠ 1 := fun z => n1 (Int32.toInt_inj.mp z)
  have m2 : (own_f10 p1 sh nB gB gN).toInt ≠ 2 := fun z => n2 (Int32.toInt_inj.mp z)
  exact Int32.toInt_inj.mp (by rw [show (3 : Int32).toInt = 3 from by decide]; omega)
theorem own_opn {p1 sh nB se : Int32} {gB gN gF : Nat → Int32} (h : own_okS p1 sh nB gB gN) (hf : ∀ i : Nat, i < 3 → ¬ gF i = se) : ¬ own_f10 p1 sh nB gB gN < (0 : Int32) ∧ (own_f10 p1 sh nB gB gN < (3 : Int32) → ¬ gF (own_f10 p1 sh nB gB gN).toNatClampNeg = se) := by
  obtain ⟨-, r, hr, h3⟩ := h
  rw [own_cl hr]
  simp only [Int32.lt_iff_toInt_lt, hr, show (0 : Int32).toInt = 0 from by decide, show (3 : Int32).toInt = 3 from by decide]
  exact ⟨by omega, fun q => hf r (by omega)⟩

theorem own_pd428 : parseMethodDescriptor "(I)I" = some ⟨[.int], some .int⟩ := by decide +kernel
theorem own_pd429 : parseMethodDescriptor "()Z" = some ⟨[], some .boolean⟩ := by decide +kernel
theorem d9_0 : decode prog_2_method_12_code 0 = .ok (.aload_n 0, 1) := by decide +kernel
theorem d9_1 : decode prog_2_method_12_code 1 = .ok (.aload_n 0, 1) := by decide +kernel
theorem d9_2 : decode prog_2_method_12_code 2 = .ok (.iload_n 1, 1) := by decide +kernel
theorem d9_3 : decode prog_2_method_12_code 3 = .ok (.invokevirtual 81, 3) := by decide +kernel
theorem d9_6 : decode prog_2_method_12_code 6 = .ok (.invokevirtual 84, 3) := by decide +kernel
theorem d9_9 : decode prog_2_method_12_code 9 = .ok (.istore_n 3, 1) := by decide +kernel
theorem d9_10 : decode prog_2_method_12_code 10 = .ok (.iload_n 3, 1) := by decide +kernel
theorem d9_11 : decode prog_2_method_12_code 11 = .ok (.aload_n 0, 1) := by decide +kernel
theorem d9_12 : decode prog_2_method_12_code 12 = .ok (.getfield 17, 3) := by decide +kernel
theorem d9_15 : decode prog_2_method_12_code 15 = .ok (.arraylength, 1) := by decide +kernel
theorem d9_16 : decode prog_2_method_12_code 16 = .ok (.if_icmp .ge 70, 3) := by decide +kernel
theorem d9_19 : decode prog_2_method_12_code 19 = .ok (.aload_n 0, 1) := by decide +kernel
theorem d9_20 : decode prog_2_method_12_code 20 = .ok (.getfield 17, 3) := by decide +kernel
theorem d9_23 : decode prog_2_method_12_code 23 = .ok (.iload_n 3, 1) := by decide +kernel
theorem d9_24 : decode prog_2_method_12_code 24 = .ok (.iaload, 1) := by decide +kernel
theorem d9_25 : decode prog_2_method_12_code 25 = .ok (.iload_n 2, 1) := by decide +kernel
theorem d9_26 : decode prog_2_method_12_code 26 = .ok (.if_icmp .gt 60, 3) := by decide +kernel
theorem d9_29 : decode prog_2_method_12_code 29 = .ok (.aload_n 0, 1) := by decide +kernel
theorem d9_30 : decode prog_2_method_12_code 30 = .ok (.invokevirtual 90, 3) := by decide +kernel
theorem d9_33 : decode prog_2_method_12_code 33 = .ok (.ifCond .ne 53, 3) := by decide +kernel
theorem d9_36 : decode prog_2_method_12_code 36 = .ok (.aload_n 0, 1) := by decide +kernel
theorem d9_37 : decode prog_2_method_12_code 37 = .ok (.getfield 23, 3) := by decide +kernel
theorem d9_40 : decode prog_2_method_12_code 40 = .ok (.iload_n 3, 1) := by decide +kernel
theorem d9_41 : decode prog_2_method_12_code 41 = .ok (.aload_n 0, 1) := by decide +kernel
theorem d9_42 : decode prog_2_method_12_code 42 = .ok (.getfield 7, 3) := by decide +kernel
theorem d9_45 : decode prog_2_method_12_code 45 = .ok (.iastore, 1) := by decide +kernel
theorem d9_46 : decode prog_2_method_12_code 46 = .ok (.aload_n 0, 1) := by decide +kernel
theorem d9_47 : decode prog_2_method_12_code 47 = .ok (.getfield 29, 3) := by decide +kernel
theorem d9_50 : decode prog_2_method_12_code 50 = .ok (.aload_n 0, 1) := by decide +kernel
theorem d9_51 : decode prog_2_method_12_code 51 = .ok (.dup, 1) := by decide +kernel
theorem d9_52 : decode prog_2_method_12_code 52 = .ok (.getfield 60, 3) := by decide +kernel
theorem d9_55 : decode prog_2_method_12_code 55 = .ok (.dup_x1, 1) := by decide +kernel
theorem d9_56 : decode prog_2_method_12_code 56 = .ok (.iconst 1, 1) := by decide +kernel
theorem d9_57 : decode prog_2_method_12_code 57 = .ok (.iadd, 1) := by decide +kernel
theorem d9_58 : decode prog_2_method_12_code 58 = .ok (.putfield 60, 3) := by decide +kernel
theorem d9_61 : decode prog_2_method_12_code 61 = .ok (.iload_n 3, 1) := by decide +kernel
theorem d9_62 : decode prog_2_method_12_code 62 = .ok (.iastore, 1) := by decide +kernel
theorem d9_63 : decode prog_2_method_12_code 63 = .ok (.aload_n 0, 1) := by decide +kernel
theorem d9_64 : decode prog_2_method_12_code 64 = .ok (.iload_n 3, 1) := by decide +kernel
theorem d9_65 : decode prog_2_method_12_code 65 = .ok (.iconst 1, 1) := by decide +kernel
theorem d9_66 : decode prog_2_method_12_code 66 = .ok (.iadd, 1) := by decide +kernel
theorem d9_67 : decode prog_2_method_12_code 67 = .ok (.invokevirtual 84, 3) := by decide +kernel
theorem d9_70 : decode prog_2_method_12_code 70 = .ok (.istore 4, 2) := by decide +kernel
theorem d9_72 : decode prog_2_method_12_code 72 = .ok (.aload_n 0, 1) := by decide +kernel
theorem d9_73 : decode prog_2_method_12_code 73 = .ok (.getfield 26, 3) := by decide +kernel
theorem d9_76 : decode prog_2_method_12_code 76 = .ok (.iload_n 3, 1) := by decide +kernel
theorem d9_77 : decode prog_2_method_12_code 77 = .ok (.iload 4, 2) := by decide +kernel
theorem d9_79 : decode prog_2_method_12_code 79 = .ok (.iastore, 1) := by decide +kernel
theorem d9_80 : decode prog_2_method_12_code 80 = .ok (.iload 4, 2) := by decide +kernel
theorem d9_82 : decode prog_2_method_12_code 82 = .ok (.istore_n 3, 1) := by decide +kernel
theorem d9_83 : decode prog_2_method_12_code 83 = .ok (.goto (-73), 3) := by decide +kernel
theorem d9_86 : decode prog_2_method_12_code 86 = .ok (.aload_n 0, 1) := by decide +kernel
theorem d9_87 : decode prog_2_method_12_code 87 = .ok (.iload_n 3, 1) := by decide +kernel
theorem d9_88 : decode prog_2_method_12_code 88 = .ok (.invokevirtual 87, 3) := by decide +kernel
theorem d9_91 : decode prog_2_method_12_code 91 = .ok (.ireturn, 1) := by decide +kernel
theorem pn_9 : plainName "com/example/reachability/reachability/CandidateList" = true := by first | (simp [plainName, overriddenIn]; done) | decide +kernel
theorem ef_9 (m : MethodId) (r0 : Addr) (p1 : Int32) (p2 : Int32) : entryFrame m #[(.ref r0), (.int p1), (.int p2)] 5 = mkF m 0 #[.val (.ref r0), .val (.int p1), .val (.int p2), .unset, .unset] [] := by first | (simp [entryFrame, mkF, argsToLocals, Value.category]; done) | rfl
def rm9f_room : Room := { frames := 2, cells := 0, slots := 0, locals := 33 }
def own_f9f (p1 : Int32) (p2 : Int32) (sh : Int32) (se : Int32) (fo : Int32) (fr : Int32) (rl : Int32) (gN : Nat → Int32) (gF : Nat → Int32) (gX : Nat → Int32) (gD : Nat → Int32) (nB : Int32) (gB : Nat → Int32) : Int32 := (if (own_f10 p1 sh nB gB gN) = (0 : Int32) then ((if p2 < (gN 0) then ((own_f13 (0 : Int32) gN)) else (let f11 := (own_set gF (0 : Int32) se); let f15 := (own_set gD (0 : Int32) (0 : Int32)); let f18 := (own_set gX (0 : Int32) (1 : Int32)); (if p2 < (gN 1) then ((own_f13 (1 : Int32) gN)) else ((if (own_f7 fo (1 : Int32)) = (0 : Int32) then (let f27 := (own_set f11 (1 : Int32) se); let f31 := (own_set f15 (1 : Int32) (1 : Int32)); let f34 := (own_set f18 (1 : Int32) (2 : Int32)); (if p2 < (gN 2) then ((own_f13 (2 : Int32) gN)) else ((if (own_f7 fo (2 : Int32)) = (0 : Int32) then (let f43 := (own_set f27 (2 : Int32) se); let f47 := (own_set f31 (2 : Int32) (2 : Int32)); let f50 := (own_set f34 (2 : Int32) (3 : Int32)); (own_f13 (3 : Int32) gN)) else ((own_f13 (2 : Int32) gN)))))) else ((own_f13 (1 : Int32) gN)))))))) else ((if (own_f10 p1 sh nB gB gN) = (1 : Int32) then ((if p2 < (gN 1) then ((own_f13 (1 : Int32) gN)) else (let f63 := (own_set gF (1 : Int32) se); let f67 := (own_set gD (0 : Int32) (1 : Int32)); let f70 := (own_set gX (1 : Int32) (2 : Int32)); (if p2 < (gN 2) then ((own_f13 (2 : Int32) gN)) else ((if (own_f7 fo (1 : Int32)) = (0 : Int32) then (let f79 := (own_set f63 (2 : Int32) se); let f83 := (own_set f67 (1 : Int32) (2 : Int32)); let f86 := (own_set f70 (2 : Int32) (3 : Int32)); (own_f13 (3 : Int32) gN)) else ((own_f13 (2 : Int32) gN)))))))) else ((if (own_f10 p1 sh nB gB gN) = (2 : Int32) then ((if p2 < (gN 2) then ((own_f13 (2 : Int32) gN)) else (let f98 := (own_set gF (2 : Int32) se); let f102 := (own_set gD (0 : Int32) (2 : Int32)); let f105 := (own_set gX (2 : Int32) (3 : Int32)); (own_f13 (3 : Int32) gN)))) else ((own_f13 (3 : Int32) gN)))))))
def own_f9f_foundCount (p1 : Int32) (p2 : Int32) (sh : Int32) (se : Int32) (fo : Int32) (fr : Int32) (rl : Int32) (gN : Nat → Int32) (gF : Nat → Int32) (gX : Nat → Int32) (gD : Nat → Int32) (nB : Int32) (gB : Nat → Int32) : Int32 := (if (own_f10 p1 sh nB gB gN) = (0 : Int32) then ((if p2 < (gN 0) then ((0 : Int32)) else (let f11 := (own_set gF (0 : Int32) se); let f15 := (own_set gD (0 : Int32) (0 : Int32)); let f18 := (own_set gX (0 : Int32) (1 : Int32)); (if p2 < (gN 1) then ((1 : Int32)) else ((if (own_f7 fo (1 : Int32)) = (0 : Int32) then (let f27 := (own_set f11 (1 : Int32) se); let f31 := (own_set f15 (1 : Int32) (1 : Int32)); let f34 := (own_set f18 (1 : Int32) (2 : Int32)); (if p2 < (gN 2) then ((2 : Int32)) else ((if (own_f7 fo (2 : Int32)) = (0 : Int32) then (let f43 := (own_set f27 (2 : Int32) se); let f47 := (own_set f31 (2 : Int32) (2 : Int32)); let f50 := (own_set f34 (2 : Int32) (3 : Int32)); (3 : Int32)) else ((2 : Int32)))))) else ((1 : Int32)))))))) else ((if (own_f10 p1 sh nB gB gN) = (1 : Int32) then ((if p2 < (gN 1) then ((0 : Int32)) else (let f63 := (own_set gF (1 : Int32) se); let f67 := (own_set gD (0 : Int32) (1 : Int32)); let f70 := (own_set gX (1 : Int32) (2 : Int32)); (if p2 < (gN 2) then ((1 : Int32)) else ((if (own_f7 fo (1 : Int32)) = (0 : Int32) then (let f79 := (own_set f63 (2 : Int32) se); let f83 := (own_set f67 (1 : Int32) (2 : Int32)); let f86 := (own_set f70 (2 : Int32) (3 : Int32)); (2 : Int32)) else ((1 : Int32)))))))) else ((if (own_f10 p1 sh nB gB gN) = (2 : Int32) then ((if p2 < (gN 2) then ((0 : Int32)) else (let f98 := (own_set gF (2 : Int32) se); let f102 := (own_set gD (0 : Int32) (2 : Int32)); let f105 := (own_set gX (2 : Int32) (3 : Int32)); (1 : Int32)))) else ((0 : Int32)))))))
def own_f9f_AxF (p1 : Int32) (p2 : Int32) (sh : Int32) (se : Int32) (fo : Int32) (fr : Int32) (rl : Int32) (gN : Nat → Int32) (gF : Nat → Int32) (gX : Nat → Int32) (gD : Nat → Int32) (nB : Int32) (gB : Nat → Int32) : Nat → Int32 := (if (own_f10 p1 sh nB gB gN) = (0 : Int32) then ((if p2 < (gN 0) then (gF) else (let f11 := (own_set gF (0 : Int32) se); let f15 := (own_set gD (0 : Int32) (0 : Int32)); let f18 := (own_set gX (0 : Int32) (1 : Int32)); (if p2 < (gN 1) then (f11) else ((if (own_f7 fo (1 : Int32)) = (0 : Int32) then (let f27 := (own_set f11 (1 : Int32) se); let f31 := (own_set f15 (1 : Int32) (1 : Int32)); let f34 := (own_set f18 (1 : Int32) (2 : Int32)); (if p2 < (gN 2) then (f27) else ((if (own_f7 fo (2 : Int32)) = (0 : Int32) then (let f43 := (own_set f27 (2 : Int32) se); let f47 := (own_set f31 (2 : Int32) (2 : Int32)); let f50 := (own_set f34 (2 : Int32) (3 : Int32)); f43) else (f27))))) else (f11))))))) else ((if (own_f10 p1 sh nB gB gN) = (1 : Int32) then ((if p2 < (gN 1) then (gF) else (let f63 := (own_set gF (1 : Int32) se); let f67 := (own_set gD (0 : Int32) (1 : Int32)); let f70 := (own_set gX (1 : Int32) (2 : Int32)); (if p2 < (gN 2) then (f63) else ((if (own_f7 fo (1 : Int32)) = (0 : Int32) then (let f79 := (own_set f63 (2 : Int32) se); let f83 := (own_set f67 (1 : Int32) (2 : Int32)); let f86 := (own_set f70 (2 : Int32) (3 : Int32)); f79) else (f63))))))) else ((if (own_f10 p1 sh nB gB gN) = (2 : Int32) then ((if p2 < (gN 2) then (gF) else (let f98 := (own_set gF (2 : Int32) se); let f102 := (own_set gD (0 : Int32) (2 : Int32)); let f105 := (own_set gX (2 : Int32) (3 : Int32)); f98))) else (gF))))))
def own_f9f_AxX (p1 : Int32) (p2 : Int32) (sh : Int32) (se : Int32) (fo : Int32) (fr : Int32) (rl : Int32) (gN : Nat → Int32) (gF : Nat → Int32) (gX : Nat → Int32) (gD : Nat → Int32) (nB : Int32) (gB : Nat → Int32) : Nat → Int32 := (if (own_f10 p1 sh nB gB gN) = (0 : Int32) then ((if p2 < (gN 0) then (gX) else (let f11 := (own_set gF (0 : Int32) se); let f15 := (own_set gD (0 : Int32) (0 : Int32)); let f18 := (own_set gX (0 : Int32) (1 : Int32)); (if p2 < (gN 1) then (f18) else ((if (own_f7 fo (1 : Int32)) = (0 : Int32) then (let f27 := (own_set f11 (1 : Int32) se); let f31 := (own_set f15 (1 : Int32) (1 : Int32)); let f34 := (own_set f18 (1 : Int32) (2 : Int32)); (if p2 < (gN 2) then (f34) else ((if (own_f7 fo (2 : Int32)) = (0 : Int32) then (let f43 := (own_set f27 (2 : Int32) se); let f47 := (own_set f31 (2 : Int32) (2 : Int32)); let f50 := (own_set f34 (2 : Int32) (3 : Int32)); f50) else (f34))))) else (f18))))))) else ((if (own_f10 p1 sh nB gB gN) = (1 : Int32) then ((if p2 < (gN 1) then (gX) else (let f63 := (own_set gF (1 : Int32) se); let f67 := (own_set gD (0 : Int32) (1 : Int32)); let f70 := (own_set gX (1 : Int32) (2 : Int32)); (if p2 < (gN 2) then (f70) else ((if (own_f7 fo (1 : Int32)) = (0 : Int32) then (let f79 := (own_set f63 (2 : Int32) se); let f83 := (own_set f67 (1 : Int32) (2 : Int32)); let f86 := (own_set f70 (2 : Int32) (3 : Int32)); f86) else (f70))))))) else ((if (own_f10 p1 sh nB gB gN) = (2 : Int32) then ((if p2 < (gN 2) then (gX) else (let f98 := (own_set gF (2 : Int32) se); let f102 := (own_set gD (0 : Int32) (2 : Int32)); let f105 := (own_set gX (2 : Int32) (3 : Int32)); f105))) else (gX))))))
def own_f9f_AxD (p1 : Int32) (p2 : Int32) (sh : Int32) (se : Int32) (fo : Int32) (fr : Int32) (rl : Int32) (gN : Nat → Int32) (gF : Nat → Int32) (gX : Nat → Int32) (gD : Nat → Int32) (nB : Int32) (gB : Nat → Int32) : Nat → Int32 := (if (own_f10 p1 sh nB gB gN) = (0 : Int32) then ((if p2 < (gN 0) then (gD) else (let f11 := (own_set gF (0 : Int32) se); let f15 := (own_set gD (0 : Int32) (0 : Int32)); let f18 := (own_set gX (0 : Int32) (1 : Int32)); (if p2 < (gN 1) then (f15) else ((if (own_f7 fo (1 : Int32)) = (0 : Int32) then (let f27 := (own_set f11 (1 : Int32) se); let f31 := (own_set f15 (1 : Int32) (1 : Int32)); let f34 := (own_set f18 (1 : Int32) (2 : Int32)); (if p2 < (gN 2) then (f31) else ((if (own_f7 fo (2 : Int32)) = (0 : Int32) then (let f43 := (own_set f27 (2 : Int32) se); let f47 := (own_set f31 (2 : Int32) (2 : Int32)); let f50 := (own_set f34 (2 : Int32) (3 : Int32)); f47) else (f31))))) else (f15))))))) else ((if (own_f10 p1 sh nB gB gN) = (1 : Int32) then ((if p2 < (gN 1) then (gD) else (let f63 := (own_set gF (1 : Int32) se); let f67 := (own_set gD (0 : Int32) (1 : Int32)); let f70 := (own_set gX (1 : Int32) (2 : Int32)); (if p2 < (gN 2) then (f67) else ((if (own_f7 fo (1 : Int32)) = (0 : Int32) then (let f79 := (own_set f63 (2 : Int32) se); let f83 := (own_set f67 (1 : Int32) (2 : Int32)); let f86 := (own_set f70 (2 : Int32) (3 : Int32)); f83) else (f67))))))) else ((if (own_f10 p1 sh nB gB gN) = (2 : Int32) then ((if p2 < (gN 2) then (gD) else (let f98 := (own_set gF (2 : Int32) se); let f102 := (own_set gD (0 : Int32) (2 : Int32)); let f105 := (own_set gX (2 : Int32) (3 : Int32)); f102))) else (gD))))))
def Qrm9f (Z : State) (r0 : Addr) (p1 : Int32) (p2 : Int32) (xN : Addr) (xE : Addr) (xF : Addr) (xX : Addr) (xD : Addr) (sh : Int32) (xB : Addr) (se : Int32) (fo : Int32) (fr : Int32) (rl : Int32) (gN : Nat → Int32) (gF : Nat → Int32) (gX : Nat → Int32) (gD : Nat → Int32) (nB : Int32) (gB : Nat → Int32) (h0 : Heap) (n0 : Nat) (v : Option Value) (h : Heap) (L : List Loc) : Prop := v = some (.int (own_f9f p1 p2 sh se fo fr rl gN gF gX gD nB gB)) ∧ Fr n0 L ∧ Keep h0 h [r0, xF, xX, xD] ∧ Fld Z h r0 "com/example/reachability/reachability/CandidateList" "numbers" "[I" (.ref xN) ∧ Fld Z h r0 "com/example/reachability/reachability/CandidateList" "elements" "[I" (.ref xE) ∧ Fld Z h r0 "com/example/reachability/reachability/CandidateList" "foundIn" "[I" (.ref xF) ∧ Fld Z h r0 "com/example/reachability/reachability/CandidateList" "next" "[I" (.ref xX) ∧ Fld Z h r0 "com/example/reachability/reachability/CandidateList" "found" "[I" (.ref xD) ∧ Fld Z h r0 "com/example/reachability/reachability/CandidateList" "bucketShift" "I" (.int sh) ∧ Fld Z h r0 "com/example/reachability/reachability/CandidateList" "bucketStart" "[I" (.ref xB) ∧ Exa Z h r0 "com/example/reachability/reachability/CandidateList" ∧ Fld Z h r0 "com/example/reachability/reachability/CandidateList" "search" "I" (.int se) ∧ Fld Z h r0 "com/example/reachability/reachability/CandidateList" "foundCount" "I" (.int (own_f9f_foundCount p1 p2 sh se fo fr rl gN gF gX gD nB gB)) ∧ Fld Z h r0 "com/example/reachability/reachability/CandidateList" "firstOnly" "Z" (.int fo) ∧ Fld Z h r0 "com/example/reachability/reachability/CandidateList" "forRuns" "Z" (.int fr) ∧ Fld Z h r0 "com/example/reachability/reachability/CandidateList" "runsLength" "I" (.int rl) ∧ own_Arf Z h xF .int (3 : Int32) (fun i => .int ((own_f9f_AxF p1 p2 sh se fo fr rl gN gF gX gD nB gB) i)) ∧ own_Arf Z h xX .int (3 : Int32) (fun i => .int ((own_f9f_AxX p1 p2 sh se fo fr rl gN gF gX gD nB gB) i)) ∧ own_Arf Z h xD .int (3 : Int32) (fun i => .int ((own_f9f_AxD p1 p2 sh se fo fr rl gN gF gX gD nB gB) i))
theorem own_lf_own_f9f_1 {p1 : Int32} {p2 : Int32} {sh : Int32} {se : Int32} {fo : Int32} {fr : Int32} {rl : Int32} {gN : Nat → Int32} {gF : Nat → Int32} {gX : Nat → Int32} {gD : Nat → Int32} {nB : Int32} {gB : Nat → Int32} (hs3 : (own_f10 p1 sh nB gB gN) = (0 : Int32)) (hc6 : p2 < (gN 0)) : (some (.int (own_f13 (0 : Int32) gN)) : Option Value) = some (.int (own_f9f p1 p2 sh se fo fr rl gN gF gX gD nB gB)) := by
  first | (simp only [own_f9f, if_pos hs3, if_pos hc6]; done) | (simp only [own_f9f, if_pos hs3, if_pos hc6]; rfl) | rfl
theorem own_lf_own_f9f_2 {p1 : Int32} {p2 : Int32} {sh : Int32} {se : Int32} {fo : Int32} {fr : Int32} {rl : Int32} {gN : Nat → Int32} {gF : Nat → Int32} {gX : Nat → Int32} {gD : Nat → Int32} {nB : Int32} {gB : Nat → Int32} (hs3 : (own_f10 p1 sh nB gB gN) = (0 : Int32)) (hc6 : p2 < (gN 0)) : (0 : Int32) = own_f9f_foundCount p1 p2 sh se fo fr rl gN gF gX gD nB gB := by
  first | (simp only [own_f9f_foundCount, if_pos hs3, if_pos hc6]; done) | (simp only [own_f9f_foundCount, if_pos hs3, if_pos hc6]; rfl) | rfl
theorem own_lf_own_f9f_3 {p1 : Int32} {p2 : Int32} {sh : Int32} {se : Int32} {fo : Int32} {fr : Int32} {rl : Int32} {gN : Nat → Int32} {gF : Nat → Int32} {gX : Nat → Int32} {gD : Nat → Int32} {nB : Int32} {gB : Nat → Int32} (hs3 : (own_f10 p1 sh nB gB gN) = (0 : Int32)) (hc6 : p2 < (gN 0)) : gF = own_f9f_AxF p1 p2 sh se fo fr rl gN gF gX gD nB gB := by
  first | (simp only [own_f9f_AxF, if_pos hs3, if_pos hc6]; done) | (simp only [own_f9f_AxF, if_pos hs3, if_pos hc6]; rfl) | rfl
theorem own_lf_own_f9f_4 {p1 : Int32} {p2 : Int32} {sh : Int32} {se : Int32} {fo : Int32} {fr : Int32} {rl : Int32} {gN : Nat → Int32} {gF : Nat → Int32} {gX : Nat → Int32} {gD : Nat → Int32} {nB : Int32} {gB : Nat → Int32} (hs3 : (own_f10 p1 sh nB gB gN) = (0 : Int32)) (hc6 : p2 < (gN 0)) : gX = own_f9f_AxX p1 p2 sh se fo fr rl gN gF gX gD nB gB := by
  first | (simp only [own_f9f_AxX, if_pos hs3, if_pos hc6]; done) | (simp only [own_f9f_AxX, if_pos hs3, if_pos hc6]; rfl) | rfl
theorem own_lf_own_f9f_5 {p1 : Int32} {p2 : Int32} {sh : Int32} {se : Int32} {fo : Int32} {fr : Int32} {rl : Int32} {gN : Nat → Int32} {gF : Nat → Int32} {gX : Nat → Int32} {gD : Nat → Int32} {nB : Int32} {gB : Nat → Int32} (hs3 : (own_f10 p1 sh nB gB gN) = (0 : Int32)) (hc6 : p2 < (gN 0)) : gD = own_f9f_AxD p1 p2 sh se fo fr rl gN gF gX gD nB gB := by
  first | (simp only [own_f9f_AxD, if_pos hs3, if_pos hc6]; done) | (simp only [own_f9f_AxD, if_pos hs3, if_pos hc6]; rfl) | rfl
theorem own_lf_own_f9f_6 {p1 : Int32} {p2 : Int32} {sh : Int32} {se : Int32} {fo : Int32} {fr : Int32} {rl : Int32} {gN : Nat → Int32} {gF : Nat → Int32} {gX : Nat → Int32} {gD : Nat → Int32} {nB : Int32} {gB : Nat → Int32} (hs3 : (own_f10 p1 sh nB gB gN) = (0 : Int32)) (hc6 : ¬ (p2 < (gN 0))) (hc21 : p2 < (gN 1)) : (some (.int (own_f13 (1 : Int32) gN)) : Option Value) = some (.int (own_f9f p1 p2 sh se fo fr rl gN gF gX gD nB gB)) := by
  first | (simp only [own_f9f, if_pos hs3, if_neg hc6, if_pos hc21]; done) | (simp only [own_f9f, if_pos hs3, if_neg hc6, if_pos hc21]; rfl) | rfl
theorem own_lf_own_f9f_7 {p1 : Int32} {p2 : Int32} {sh : Int32} {se : Int32} {fo : Int32} {fr : Int32} {rl : Int32} {gN : Nat → Int32} {gF : Nat → Int32} {gX : Nat → Int32} {gD : Nat → Int32} {nB : Int32} {gB : Nat → Int32} (hs3 : (own_f10 p1 sh nB gB gN) = (0 : Int32)) (hc6 : ¬ (p2 < (gN 0))) (hc21 : p2 < (gN 1)) : (1 : Int32) = own_f9f_foundCount p1 p2 sh se fo fr rl gN gF gX gD nB gB := by
  first | (simp only [own_f9f_foundCount, if_pos hs3, if_neg hc6, if_pos hc21]; done) | (simp only [own_f9f_foundCount, if_pos hs3, if_neg hc6, if_pos hc21]; rfl) | rfl
theorem own_lf_own_f9f_8 {p1 : Int32} {p2 : Int32} {sh : Int32} {se : Int32} {fo : Int32} {fr : Int32} {rl : Int32} {gN : Nat → Int32} {gF : Nat → Int32} {gX : Nat → Int32} {gD : Nat → Int32} {nB : Int32} {gB : Nat → Int32} {f11 : Nat → Int32} (hf11 : f11 = (own_set gF (0 : Int32) se)) (hs3 : (own_f10 p1 sh nB gB gN) = (0 : Int32)) (hc6 : ¬ (p2 < (gN 0))) (hc21 : p2 < (gN 1)) : f11 = own_f9f_AxF p1 p2 sh se fo fr rl gN gF gX gD nB gB := by
  subst hf11
  first | (simp only [own_f9f_AxF, if_pos hs3, if_neg hc6, if_pos hc21]; done) | (simp only [own_f9f_AxF, if_pos hs3, if_neg hc6, if_pos hc21]; rfl) | rfl
theorem own_lf_own_f9f_9 {p1 : Int32} {p2 : Int32} {sh : Int32} {se : Int32} {fo : Int32} {fr : Int32} {rl : Int32} {gN : Nat → Int32} {gF : Nat → Int32} {gX : Nat → Int32} {gD : Nat → Int32} {nB : Int32} {gB : Nat → Int32} {f18 : Nat → Int32} (hf18 : f18 = (own_set gX (0 : Int32) (1 : Int32))) (hs3 : (own_f10 p1 sh nB gB gN) = (0 : Int32)) (hc6 : ¬ (p2 < (gN 0))) (hc21 : p2 < (gN 1)) : f18 = own_f9f_AxX p1 p2 sh se fo fr rl gN gF gX gD nB gB := by
  subst hf18
  first | (simp only [own_f9f_AxX, if_pos hs3, if_neg hc6, if_pos hc21]; done) | (simp only [own_f9f_AxX, if_pos hs3, if_neg hc6, if_pos hc21]; rfl) | rfl
theorem own_lf_own_f9f_10 {p1 : Int32} {p2 : Int32} {sh : Int32} {se : Int32} {fo : Int32} {fr : Int32} {rl : Int32} {gN : Nat → Int32} {gF : Nat → Int32} {gX : Nat → Int32} {gD : Nat → Int32} {nB : Int32} {gB : Nat → Int32} {f15 : Nat → Int32} (hf15 : f15 = (own_set gD (0 : Int32) (0 : Int32))) (hs3 : (own_f10 p1 sh nB gB gN) = (0 : Int32)) (hc6 : ¬ (p2 < (gN 0))) (hc21 : p2 < (gN 1)) : f15 = own_f9f_AxD p1 p2 sh se fo fr rl gN gF gX gD nB gB := by
  subst hf15
  first | (simp only [own_f9f_AxD, if_pos hs3, if_neg hc6, if_pos hc21]; done) | (simp only [own_f9f_AxD, if_pos hs3, if_neg hc6, if_pos hc21]; rfl) | rfl
theorem own_lf_own_f9f_11 {p1 : Int32} {p2 : Int32} {sh : Int32} {se : Int32} {fo : Int32} {fr : Int32} {rl : Int32} {gN : Nat → Int32} {gF : Nat → Int32} {gX : Nat → Int32} {gD : Nat → Int32} {nB : Int32} {gB : Nat → Int32} (hs3 : (own_f10 p1 sh nB gB gN) = (0 : Int32)) (hc6 : ¬ (p2 < (gN 0))) (hc21 : ¬ (p2 < (gN 1))) (hc24 : (own_f7 fo (1 : Int32)) = (0 : Int32)) (hc37 : p2 < (gN 2)) : (some (.int (own_f13 (2 : Int32) gN)) : Option Value) = some (.int (own_f9f p1 p2 sh se fo fr rl gN gF gX gD nB gB)) := by
  first | (simp only [own_f9f, if_pos hs3, if_neg hc6, if_neg hc21, if_pos hc24, if_pos hc37]; done) | (simp only [own_f9f, if_pos hs3, if_neg hc6, if_neg hc21, if_pos hc24, if_pos hc37]; rfl) | rfl
theorem own_lf_own_f9f_12 {p1 : Int32} {p2 : Int32} {sh : Int32} {se : Int32} {fo : Int32} {fr : Int32} {rl : Int32} {gN : Nat → Int32} {gF : Nat → Int32} {gX : Nat → Int32} {gD : Nat → Int32} {nB : Int32} {gB : Nat → Int32} (hs3 : (own_f10 p1 sh nB gB gN) = (0 : Int32)) (hc6 : ¬ (p2 < (gN 0))) (hc21 : ¬ (p2 < (gN 1))) (hc24 : (own_f7 fo (1 : Int32)) = (0 : Int32)) (hc37 : p2 < (gN 2)) : (2 : Int32) = own_f9f_foundCount p1 p2 sh se fo fr rl gN gF gX gD nB gB := by
  first | (simp only [own_f9f_foundCount, if_pos hs3, if_neg hc6, if_neg hc21, if_pos hc24, if_pos hc37]; done) | (simp only [own_f9f_foundCount, if_pos hs3, if_neg hc6, if_neg hc21, if_pos hc24, if_pos hc37]; rfl) | rfl
theorem own_lf_own_f9f_13 {p1 : Int32} {p2 : Int32} {sh : Int32} {se : Int32} {fo : Int32} {fr : Int32} {rl : Int32} {gN : Nat → Int32} {gF : Nat → Int32} {gX : Nat → Int32} {gD : Nat → Int32} {nB : Int32} {gB : Nat → Int32} {f11 : Nat → Int32} {f27 : Nat → Int32} (hf11 : f11 = (own_set gF (0 : Int32) se)) (hf27 : f27 = (own_set f11 (1 : Int32) se)) (hs3 : (own_f10 p1 sh nB gB gN) = (0 : Int32)) (hc6 : ¬ (p2 < (gN 0))) (hc21 : ¬ (p2 < (gN 1))) (hc24 : (own_f7 fo (1 : Int32)) = (0 : Int32)) (hc37 : p2 < (gN 2)) : f27 = own_f9f_AxF p1 p2 sh se fo fr rl gN gF gX gD nB gB := by
  subst hf27
  subst hf11
  first | (simp only [own_f9f_AxF, if_pos hs3, if_neg hc6, if_neg hc21, if_pos hc24, if_pos hc37]; done) | (simp only [own_f9f_AxF, if_pos hs3, if_neg hc6, if_neg hc21, if_pos hc24, if_pos hc37]; rfl) | rfl
theorem own_lf_own_f9f_14 {p1 : Int32} {p2 : Int32} {sh : Int32} {se : Int32} {fo : Int32} {fr : Int32} {rl : Int32} {gN : Nat → Int32} {gF : Nat → Int32} {gX : Nat → Int32} {gD : Nat → Int32} {nB : Int32} {gB : Nat → Int32} {f18 : Nat → Int32} {f34 : Nat → Int32} (hf18 : f18 = (own_set gX (0 : Int32) (1 : Int32))) (hf34 : f34 = (own_set f18 (1 : Int32) (2 : Int32))) (hs3 : (own_f10 p1 sh nB gB gN) = (0 : Int32)) (hc6 : ¬ (p2 < (gN 0))) (hc21 : ¬ (p2 < (gN 1))) (hc24 : (own_f7 fo (1 : Int32)) = (0 : Int32)) (hc37 : p2 < (gN 2)) : f34 = own_f9f_AxX p1 p2 sh se fo fr rl gN gF gX gD nB gB := by
  subst hf34
  subst hf18
  first | (simp only [own_f9f_AxX, if_pos hs3, if_neg hc6, if_neg hc21, if_pos hc24, if_pos hc37]; done) | (simp only [own_f9f_AxX, if_pos hs3, if_neg hc6, if_neg hc21, if_pos hc24, if_pos hc37]; rfl) | rfl
theorem own_lf_own_f9f_15 {p1 : Int32} {p2 : Int32} {sh : Int32} {se : Int32} {fo : Int32} {fr : Int32} {rl : Int32} {gN : Nat → Int32} {gF : Nat → Int32} {gX : Nat → Int32} {gD : Nat → Int32} {nB : Int32} {gB : Nat → Int32} {f15 : Nat → Int32} {f31 : Nat → Int32} (hf15 : f15 = (own_set gD (0 : Int32) (0 : Int32))) (hf31 : f31 = (own_set f15 (1 : Int32) (1 : Int32))) (hs3 : (own_f10 p1 sh nB gB gN) = (0 : Int32)) (hc6 : ¬ (p2 < (gN 0))) (hc21 : ¬ (p2 < (gN 1))) (hc24 : (own_f7 fo (1 : Int32)) = (0 : Int32)) (hc37 : p2 < (gN 2)) : f31 = own_f9f_AxD p1 p2 sh se fo fr rl gN gF gX gD nB gB := by
  subst hf31
  subst hf15
  first | (simp only [own_f9f_AxD, if_pos hs3, if_neg hc6, if_neg hc21, if_pos hc24, if_pos hc37]; done) | (simp only [own_f9f_AxD, if_pos hs3, if_neg hc6, if_neg hc21, if_pos hc24, if_pos hc37]; rfl) | rfl
theorem own_lf_own_f9f_16 {p1 : Int32} {p2 : Int32} {sh : Int32} {se : Int32} {fo : Int32} {fr : Int32} {rl : Int32} {gN : Nat → Int32} {gF : Nat → Int32} {gX : Nat → Int32} {gD : Nat → Int32} {nB : Int32} {gB : Nat → Int32} (hs3 : (own_f10 p1 sh nB gB gN) = (0 : Int32)) (hc6 : ¬ (p2 < (gN 0))) (hc21 : ¬ (p2 < (gN 1))) (hc24 : (own_f7 fo (1 : Int32)) = (0 : Int32)) (hc37 : ¬ (p2 < (gN 2))) (hc40 : (own_f7 fo (2 : Int32)) = (0 : Int32)) : (some (.int (own_f13 (3 : Int32) gN)) : Option Value) = some (.int (own_f9f p1 p2 sh se fo fr rl gN gF gX gD nB gB)) := by
  first | (simp only [own_f9f, if_pos hs3, if_neg hc6, if_neg hc21, if_pos hc24, if_neg hc37, if_pos hc40]; done) | (simp only [own_f9f, if_pos hs3, if_neg hc6, if_neg hc21, if_pos hc24, if_neg hc37, if_pos hc40]; rfl) | rfl
theorem own_lf_own_f9f_17 {p1 : Int32} {p2 : Int32} {sh : Int32} {se : Int32} {fo : Int32} {fr : Int32} {rl : Int32} {gN : Nat → Int32} {gF : Nat → Int32} {gX : Nat → Int32} {gD : Nat → Int32} {nB : Int32} {gB : Nat → Int32} (hs3 : (own_f10 p1 sh nB gB gN) = (0 : Int32)) (hc6 : ¬ (p2 < (gN 0))) (hc21 : ¬ (p2 < (gN 1))) (hc24 : (own_f7 fo (1 : Int32)) = (0 : Int32)) (hc37 : ¬ (p2 < (gN 2))) (hc40 : (own_f7 fo (2 : Int32)) = (0 : Int32)) : (3 : Int32) = own_f9f_foundCount p1 p2 sh se fo fr rl gN gF gX gD nB gB := by
  first | (simp only [own_f9f_foundCount, if_pos hs3, if_neg hc6, if_neg hc21, if_pos hc24, if_neg hc37, if_pos hc40]; done) | (simp only [own_f9f_foundCount, if_pos hs3, if_neg hc6, if_neg hc21, if_pos hc24, if_neg hc37, if_pos hc40]; rfl) | rfl
theorem own_lf_own_f9f_18 {p1 : Int32} {p2 : Int32} {sh : Int32} {se : Int32} {fo : Int32} {fr : Int32} {rl : Int32} {gN : Nat → Int32} {gF : Nat → Int32} {gX : Nat → Int32} {gD : Nat → Int32} {nB : Int32} {gB : Nat → Int32} {f11 : Nat → Int32} {f27 : Nat → Int32} {f43 : Nat → Int32} (hf11 : f11 = (own_set gF (0 : Int32) se)) (hf27 : f27 = (own_set f11 (1 : Int32) se)) (hf43 : f43 = (own_set f27 (2 : Int32) se)) (hs3 : (own_f10 p1 sh nB gB gN) = (0 : Int32)) (hc6 : ¬ (p2 < (gN 0))) (hc21 : ¬ (p2 < (gN 1))) (hc24 : (own_f7 fo (1 : Int32)) = (0 : Int32)) (hc37 : ¬ (p2 < (gN 2))) (hc40 : (own_f7 fo (2 : Int32)) = (0 : Int32)) : f43 = own_f9f_AxF p1 p2 sh se fo fr rl gN gF gX gD nB gB := by
  subst hf43
  subst hf27
  subst hf11
  first | (simp only [own_f9f_AxF, if_pos hs3, if_neg hc6, if_neg hc21, if_pos hc24, if_neg hc37, if_pos hc40]; done) | (simp only [own_f9f_AxF, if_pos hs3, if_neg hc6, if_neg hc21, if_pos hc24, if_neg hc37, if_pos hc40]; rfl) | rfl
theorem own_lf_own_f9f_19 {p1 : Int32} {p2 : Int32} {sh : Int32} {se : Int32} {fo : Int32} {fr : Int32} {rl : Int32} {gN : Nat → Int32} {gF : Nat → Int32} {gX : Nat → Int32} {gD : Nat → Int32} {nB : Int32} {gB : Nat → Int32} {f18 : Nat → Int32} {f34 : Nat → Int32} {f50 : Nat → Int32} (hf18 : f18 = (own_set gX (0 : Int32) (1 : Int32))) (hf34 : f34 = (own_set f18 (1 : Int32) (2 : Int32))) (hf50 : f50 = (own_set f34 (2 : Int32) (3 : Int32))) (hs3 : (own_f10 p1 sh nB gB gN) = (0 : Int32)) (hc6 : ¬ (p2 < (gN 0))) (hc21 : ¬ (p2 < (gN 1))) (hc24 : (own_f7 fo (1 : Int32)) = (0 : Int32)) (hc37 : ¬ (p2 < (gN 2))) (hc40 : (own_f7 fo (2 : Int32)) = (0 : Int32)) : f50 = own_f9f_AxX p1 p2 sh se fo fr rl gN gF gX gD nB gB := by
  subst hf50
  subst hf34
  subst hf18
  first | (simp only [own_f9f_AxX, if_pos hs3, if_neg hc6, if_neg hc21, if_pos hc24, if_neg hc37, if_pos hc40]; done) | (simp only [own_f9f_AxX, if_pos hs3, if_neg hc6, if_neg hc21, if_pos hc24, if_neg hc37, if_pos hc40]; rfl) | rfl
theorem own_lf_own_f9f_20 {p1 : Int32} {p2 : Int32} {sh : Int32} {se : Int32} {fo : Int32} {fr : Int32} {rl : Int32} {gN : Nat → Int32} {gF : Nat → Int32} {gX : Nat → Int32} {gD : Nat → Int32} {nB : Int32} {gB : Nat → Int32} {f15 : Nat → Int32} {f31 : Nat → Int32} {f47 : Nat → Int32} (hf15 : f15 = (own_set gD (0 : Int32) (0 : Int32))) (hf31 : f31 = (own_set f15 (1 : Int32) (1 : Int32))) (hf47 : f47 = (own_set f31 (2 : Int32) (2 : Int32))) (hs3 : (own_f10 p1 sh nB gB gN) = (0 : Int32)) (hc6 : ¬ (p2 < (gN 0))) (hc21 : ¬ (p2 < (gN 1))) (hc24 : (own_f7 fo (1 : Int32)) = (0 : Int32)) (hc37 : ¬ (p2 < (gN 2))) (hc40 : (own_f7 fo (2 : Int32)) = (0 : Int32)) : f47 = own_f9f_AxD p1 p2 sh se fo fr rl gN gF gX gD nB gB := by
  subst hf47
  subst hf31
  subst hf15
  first | (simp only [own_f9f_AxD, if_pos hs3, if_neg hc6, if_neg hc21, if_pos hc24, if_neg hc37, if_pos hc40]; done) | (simp only [own_f9f_AxD, if_pos hs3, if_neg hc6, if_neg hc21, if_pos hc24, if_neg hc37, if_pos hc40]; rfl) | rfl
theorem own_lf_own_f9f_21 {p1 : Int32} {p2 : Int32} {sh : Int32} {se : Int32} {fo : Int32} {fr : Int32} {rl : Int32} {gN : Nat → Int32} {gF : Nat → Int32} {gX : Nat → Int32} {gD : Nat → Int32} {nB : Int32} {gB : Nat → Int32} (hs3 : (own_f10 p1 sh nB gB gN) = (0 : Int32)) (hc6 : ¬ (p2 < (gN 0))) (hc21 : ¬ (p2 < (gN 1))) (hc24 : (own_f7 fo (1 : Int32)) = (0 : Int32)) (hc37 : ¬ (p2 < (gN 2))) (hc40 : ¬ ((own_f7 fo (2 : Int32)) = (0 : Int32))) : (some (.int (own_f13 (2 : Int32) gN)) : Option Value) = some (.int (own_f9f p1 p2 sh se fo fr rl gN gF gX gD nB gB)) := by
  first | (simp only [own_f9f, if_pos hs3, if_neg hc6, if_neg hc21, if_pos hc24, if_neg hc37, if_neg hc40]; done) | (simp only [own_f9f, if_pos hs3, if_neg hc6, if_neg hc21, if_pos hc24, if_neg hc37, if_neg hc40]; rfl) | rfl
theorem own_lf_own_f9f_22 {p1 : Int32} {p2 : Int32} {sh : Int32} {se : Int32} {fo : Int32} {fr : Int32} {rl : Int32} {gN : Nat → Int32} {gF : Nat → Int32} {gX : Nat → Int32} {gD : Nat → Int32} {nB : Int32} {gB : Nat → Int32} (hs3 : (own_f10 p1 sh nB gB gN) = (0 : Int32)) (hc6 : ¬ (p2 < (gN 0))) (hc21 : ¬ (p2 < (gN 1))) (hc24 : (own_f7 fo (1 : Int32)) = (0 : Int32)) (hc37 : ¬ (p2 < (gN 2))) (hc40 : ¬ ((own_f7 fo (2 : Int32)) = (0 : Int32))) : (2 : Int32) = own_f9f_foundCount p1 p2 sh se fo fr rl gN gF gX gD nB gB := by
  first | (simp only [own_f9f_foundCount, if_pos hs3, if_neg hc6, if_neg hc21, if_pos hc24, if_neg hc37, if_neg hc40]; done) | (simp only [own_f9f_foundCount, if_pos hs3, if_neg hc6, if_neg hc21, if_pos hc24, if_neg hc37, if_neg hc40]; rfl) | rfl
theorem own_lf_own_f9f_23 {p1 : Int32} {p2 : Int32} {sh : Int32} {se : Int32} {fo : Int32} {fr : Int32} {rl : Int32} {gN : Nat → Int32} {gF : Nat → Int32} {gX : Nat → Int32} {gD : Nat → Int32} {nB : Int32} {gB : Nat → Int32} {f11 : Nat → Int32} {f27 : Nat → Int32} (hf11 : f11 = (own_set gF (0 : Int32) se)) (hf27 : f27 = (own_set f11 (1 : Int32) se)) (hs3 : (own_f10 p1 sh nB gB gN) = (0 : Int32)) (hc6 : ¬ (p2 < (gN 0))) (hc21 : ¬ (p2 < (gN 1))) (hc24 : (own_f7 fo (1 : Int32)) = (0 : Int32)) (hc37 : ¬ (p2 < (gN 2))) (hc40 : ¬ ((own_f7 fo (2 : Int32)) = (0 : Int32))) : f27 = own_f9f_AxF p1 p2 sh se fo fr rl gN gF gX gD nB gB := by
  subst hf27
  subst hf11
  first | (simp only [own_f9f_AxF, if_pos hs3, if_neg hc6, if_neg hc21, if_pos hc24, if_neg hc37, if_neg hc40]; done) | (simp only [own_f9f_AxF, if_pos hs3, if_neg hc6, if_neg hc21, if_pos hc24, if_neg hc37, if_neg hc40]; rfl) | rfl
theorem own_lf_own_f9f_24 {p1 : Int32} {p2 : Int32} {sh : Int32} {se : Int32} {fo : Int32} {fr : Int32} {rl : Int32} {gN : Nat → Int32} {gF : Nat → Int32} {gX : Nat → Int32} {gD : Nat → Int32} {nB : Int32} {gB : Nat → Int32} {f18 : Nat → Int32} {f34 : Nat → Int32} (hf18 : f18 = (own_set gX (0 : Int32) (1 : Int32))) (hf34 : f34 = (own_set f18 (1 : Int32) (2 : Int32))) (hs3 : (own_f10 p1 sh nB gB gN) = (0 : Int32)) (hc6 : ¬ (p2 < (gN 0))) (hc21 : ¬ (p2 < (gN 1))) (hc24 : (own_f7 fo (1 : Int32)) = (0 : Int32)) (hc37 : ¬ (p2 < (gN 2))) (hc40 : ¬ ((own_f7 fo (2 : Int32)) = (0 : Int32))) : f34 = own_f9f_AxX p1 p2 sh se fo fr rl gN gF gX gD nB gB := by
  subst hf34
  subst hf18
  first | (simp only [own_f9f_AxX, if_pos hs3, if_neg hc6, if_neg hc21, if_pos hc24, if_neg hc37, if_neg hc40]; done) | (simp only [own_f9f_AxX, if_pos hs3, if_neg hc6, if_neg hc21, if_pos hc24, if_neg hc37, if_neg hc40]; rfl) | rfl
theorem own_lf_own_f9f_25 {p1 : Int32} {p2 : Int32} {sh : Int32} {se : Int32} {fo : Int32} {fr : Int32} {rl : Int32} {gN : Nat → Int32} {gF : Nat → Int32} {gX : Nat → Int32} {gD : Nat → Int32} {nB : Int32} {gB : Nat → Int32} {f15 : Nat → Int32} {f31 : Nat → Int32} (hf15 : f15 = (own_set gD (0 : Int32) (0 : Int32))) (hf31 : f31 = (own_set f15 (1 : Int32) (1 : Int32))) (hs3 : (own_f10 p1 sh nB gB gN) = (0 : Int32)) (hc6 : ¬ (p2 < (gN 0))) (hc21 : ¬ (p2 < (gN 1))) (hc24 : (own_f7 fo (1 : Int32)) = (0 : Int32)) (hc37 : ¬ (p2 < (gN 2))) (hc40 : ¬ ((own_f7 fo (2 : Int32)) = (0 : Int32))) : f31 = own_f9f_AxD p1 p2 sh se fo fr rl gN gF gX gD nB gB := by
  subst hf31
  subst hf15
  first | (simp only [own_f9f_AxD, if_pos hs3, if_neg hc6, if_neg hc21, if_pos hc24, if_neg hc37, if_neg hc40]; done) | (simp only [own_f9f_AxD, if_pos hs3, if_neg hc6, if_neg hc21, if_pos hc24, if_neg hc37, if_neg hc40]; rfl) | rfl
theorem own_lf_own_f9f_26 {p1 : Int32} {p2 : Int32} {sh : Int32} {se : Int32} {fo : Int32} {fr : Int32} {rl : Int32} {gN : Nat → Int32} {gF : Nat → Int32} {gX : Nat → Int32} {gD : Nat → Int32} {nB : Int32} {gB : Nat → Int32} (hs3 : (own_f10 p1 sh nB gB gN) = (0 : Int32)) (hc6 : ¬ (p2 < (gN 0))) (hc21 : ¬ (p2 < (gN 1))) (hc24 : ¬ ((own_f7 fo (1 : Int32)) = (0 : Int32))) : (some (.int (own_f13 (1 : Int32) gN)) : Option Value) = some (.int (own_f9f p1 p2 sh se fo fr rl gN gF gX gD nB gB)) := by
  first | (simp only [own_f9f, if_pos hs3, if_neg hc6, if_neg hc21, if_neg hc24]; done) | (simp only [own_f9f, if_pos hs3, if_neg hc6, if_neg hc21, if_neg hc24]; rfl) | rfl
theorem own_lf_own_f9f_27 {p1 : Int32} {p2 : Int32} {sh : Int32} {se : Int32} {fo : Int32} {fr : Int32} {rl : Int32} {gN : Nat → Int32} {gF : Nat → Int32} {gX : Nat → Int32} {gD : Nat → Int32} {nB : Int32} {gB : Nat → Int32} (hs3 : (own_f10 p1 sh nB gB gN) = (0 : Int32)) (hc6 : ¬ (p2 < (gN 0))) (hc21 : ¬ (p2 < (gN 1))) (hc24 : ¬ ((own_f7 fo (1 : Int32)) = (0 : Int32))) : (1 : Int32) = own_f9f_foundCount p1 p2 sh se fo fr rl gN gF gX gD nB gB := by
  first | (simp only [own_f9f_foundCount, if_pos hs3, if_neg hc6, if_neg hc21, if_neg hc24]; done) | (simp only [own_f9f_foundCount, if_pos hs3, if_neg hc6, if_neg hc21, if_neg hc24]; rfl) | rfl
theorem own_lf_own_f9f_28 {p1 : Int32} {p2 : Int32} {sh : Int32} {se : Int32} {fo : Int32} {fr : Int32} {rl : Int32} {gN : Nat → Int32} {gF : Nat → Int32} {gX : Nat → Int32} {gD : Nat → Int32} {nB : Int32} {gB : Nat → Int32} {f11 : Nat → Int32} (hf11 : f11 = (own_set gF (0 : Int32) se)) (hs3 : (own_f10 p1 sh nB gB gN) = (0 : Int32)) (hc6 : ¬ (p2 < (gN 0))) (hc21 : ¬ (p2 < (gN 1))) (hc24 : ¬ ((own_f7 fo (1 : Int32)) = (0 : Int32))) : f11 = own_f9f_AxF p1 p2 sh se fo fr rl gN gF gX gD nB gB := by
  subst hf11
  first | (simp only [own_f9f_AxF, if_pos hs3, if_neg hc6, if_neg hc21, if_neg hc24]; done) | (simp only [own_f9f_AxF, if_pos hs3, if_neg hc6, if_neg hc21, if_neg hc24]; rfl) | rfl
theorem own_lf_own_f9f_29 {p1 : Int32} {p2 : Int32} {sh : Int32} {se : Int32} {fo : Int32} {fr : Int32} {rl : Int32} {gN : Nat → Int32} {gF : Nat → Int32} {gX : Nat → Int32} {gD : Nat → Int32} {nB : Int32} {gB : Nat → Int32} {f18 : Nat → Int32} (hf18 : f18 = (own_set gX (0 : Int32) (1 : Int32))) (hs3 : (own_f10 p1 sh nB gB gN) = (0 : Int32)) (hc6 : ¬ (p2 < (gN 0))) (hc21 : ¬ (p2 < (gN 1))) (hc24 : ¬ ((own_f7 fo (1 : Int32)) = (0 : Int32))) : f18 = own_f9f_AxX p1 p2 sh se fo fr rl gN gF gX gD nB gB := by
  subst hf18
  first | (simp only [own_f9f_AxX, if_pos hs3, if_neg hc6, if_neg hc21, if_neg hc24]; done) | (simp only [own_f9f_AxX, if_pos hs3, if_neg hc6, if_neg hc21, if_neg hc24]; rfl) | rfl
theorem own_lf_own_f9f_30 {p1 : Int32} {p2 : Int32} {sh : Int32} {se : Int32} {fo : Int32} {fr : Int32} {rl : Int32} {gN : Nat → Int32} {gF : Nat → Int32} {gX : Nat → Int32} {gD : Nat → Int32} {nB : Int32} {gB : Nat → Int32} {f15 : Nat → Int32} (hf15 : f15 = (own_set gD (0 : Int32) (0 : Int32))) (hs3 : (own_f10 p1 sh nB gB gN) = (0 : Int32)) (hc6 : ¬ (p2 < (gN 0))) (hc21 : ¬ (p2 < (gN 1))) (hc24 : ¬ ((own_f7 fo (1 : Int32)) = (0 : Int32))) : f15 = own_f9f_AxD p1 p2 sh se fo fr rl gN gF gX gD nB gB := by
  subst hf15
  first | (simp only [own_f9f_AxD, if_pos hs3, if_neg hc6, if_neg hc21, if_neg hc24]; done) | (simp only [own_f9f_AxD, if_pos hs3, if_neg hc6, if_neg hc21, if_neg hc24]; rfl) | rfl
theorem own_lf_own_f9f_31 {p1 : Int32} {p2 : Int32} {sh : Int32} {se : Int32} {fo : Int32} {fr : Int32} {rl : Int32} {gN : Nat → Int32} {gF : Nat → Int32} {gX : Nat → Int32} {gD : Nat → Int32} {nB : Int32} {gB : Nat → Int32} (hs3 : ¬ ((own_f10 p1 sh nB gB gN) = (0 : Int32))) (hs55 : (own_f10 p1 sh nB gB gN) = (1 : Int32)) (hc58 : p2 < (gN 1)) : (some (.int (own_f13 (1 : Int32) gN)) : Option Value) = some (.int (own_f9f p1 p2 sh se fo fr rl gN gF gX gD nB gB)) := by
  first | (simp only [own_f9f, if_neg hs3, if_pos hs55, if_pos hc58]; done) | (simp only [own_f9f, if_neg hs3, if_pos hs55, if_pos hc58]; rfl) | rfl
theorem own_lf_own_f9f_32 {p1 : Int32} {p2 : Int32} {sh : Int32} {se : Int32} {fo : Int32} {fr : Int32} {rl : Int32} {gN : Nat → Int32} {gF : Nat → Int32} {gX : Nat → Int32} {gD : Nat → Int32} {nB : Int32} {gB : Nat → Int32} (hs3 : ¬ ((own_f10 p1 sh nB gB gN) = (0 : Int32))) (hs55 : (own_f10 p1 sh nB gB gN) = (1 : Int32)) (hc58 : p2 < (gN 1)) : (0 : Int32) = own_f9f_foundCount p1 p2 sh se fo fr rl gN gF gX gD nB gB := by
  first | (simp only [own_f9f_foundCount, if_neg hs3, if_pos hs55, if_pos hc58]; done) | (simp only [own_f9f_foundCount, if_neg hs3, if_pos hs55, if_pos hc58]; rfl) | rfl
theorem own_lf_own_f9f_33 {p1 : Int32} {p2 : Int32} {sh : Int32} {se : Int32} {fo : Int32} {fr : Int32} {rl : Int32} {gN : Nat → Int32} {gF : Nat → Int32} {gX : Nat → Int32} {gD : Nat → Int32} {nB : Int32} {gB : Nat → Int32} (hs3 : ¬ ((own_f10 p1 sh nB gB gN) = (0 : Int32))) (hs55 : (own_f10 p1 sh nB gB gN) = (1 : Int32)) (hc58 : p2 < (gN 1)) : gF = own_f9f_AxF p1 p2 sh se fo fr rl gN gF gX gD nB gB := by
  first | (simp only [own_f9f_AxF, if_neg hs3, if_pos hs55, if_pos hc58]; done) | (simp only [own_f9f_AxF, if_neg hs3, if_pos hs55, if_pos hc58]; rfl) | rfl
theorem own_lf_own_f9f_34 {p1 : Int32} {p2 : Int32} {sh : Int32} {se : Int32} {fo : Int32} {fr : Int32} {rl : Int32} {gN : Nat → Int32} {gF : Nat → Int32} {gX : Nat → Int32} {gD : Nat → Int32} {nB : Int32} {gB : Nat → Int32} (hs3 : ¬ ((own_f10 p1 sh nB gB gN) = (0 : Int32))) (hs55 : (own_f10 p1 sh nB gB gN) = (1 : Int32)) (hc58 : p2 < (gN 1)) : gX = own_f9f_AxX p1 p2 sh se fo fr rl gN gF gX gD nB gB := by
  first | (simp only [own_f9f_AxX, if_neg hs3, if_pos hs55, if_pos hc58]; done) | (simp only [own_f9f_AxX, if_neg hs3, if_pos hs55, if_pos hc58]; rfl) | rfl
theorem own_lf_own_f9f_35 {p1 : Int32} {p2 : Int32} {sh : Int32} {se : Int32} {fo : Int32} {fr : Int32} {rl : Int32} {gN : Nat → Int32} {gF : Nat → Int32} {gX : Nat → Int32} {gD : Nat → Int32} {nB : Int32} {gB : Nat → Int32} (hs3 : ¬ ((own_f10 p1 sh nB gB gN) = (0 : Int32))) (hs55 : (own_f10 p1 sh nB gB gN) = (1 : Int32)) (hc58 : p2 < (gN 1)) : gD = own_f9f_AxD p1 p2 sh se fo fr rl gN gF gX gD nB gB := by
  first | (simp only [own_f9f_AxD, if_neg hs3, if_pos hs55, if_pos hc58]; done) | (simp only [own_f9f_AxD, if_neg hs3, if_pos hs55, if_pos hc58]; rfl) | rfl
theorem own_lf_own_f9f_36 {p1 : Int32} {p2 : Int32} {sh : Int32} {se : Int32} {fo : Int32} {fr : Int32} {rl : Int32} {gN : Nat → Int32} {gF : Nat → Int32} {gX : Nat → Int32} {gD : Nat → Int32} {nB : Int32} {gB : Nat → Int32} (hs3 : ¬ ((own_f10 p1 sh nB gB gN) = (0 : Int32))) (hs55 : (own_f10 p1 sh nB gB gN) = (1 : Int32)) (hc58 : ¬ (p2 < (gN 1))) (hc73 : p2 < (gN 2)) : (some (.int (own_f13 (2 : Int32) gN)) : Option Value) = some (.int (own_f9f p1 p2 sh se fo fr rl gN gF gX gD nB gB)) := by
  first | (simp only [own_f9f, if_neg hs3, if_pos hs55, if_neg hc58, if_pos hc73]; done) | (simp only [own_f9f, if_neg hs3, if_pos hs55, if_neg hc58, if_pos hc73]; rfl) | rfl
theorem own_lf_own_f9f_37 {p1 : Int32} {p2 : Int32} {sh : Int32} {se : Int32} {fo : Int32} {fr : Int32} {rl : Int32} {gN : Nat → Int32} {gF : Nat → Int32} {gX : Nat → Int32} {gD : Nat → Int32} {nB : Int32} {gB : Nat → Int32} (hs3 : ¬ ((own_f10 p1 sh nB gB gN) = (0 : Int32))) (hs55 : (own_f10 p1 sh nB gB gN) = (1 : Int32)) (hc58 : ¬ (p2 < (gN 1))) (hc73 : p2 < (gN 2)) : (1 : Int32) = own_f9f_foundCount p1 p2 sh se fo fr rl gN gF gX gD nB gB := by
  first | (simp only [own_f9f_foundCount, if_neg hs3, if_pos hs55, if_neg hc58, if_pos hc73]; done) | (simp only [own_f9f_foundCount, if_neg hs3, if_pos hs55, if_neg hc58, if_pos hc73]; rfl) | rfl
theorem own_lf_own_f9f_38 {p1 : Int32} {p2 : Int32} {sh : Int32} {se : Int32} {fo : Int32} {fr : Int32} {rl : Int32} {gN : Nat → Int32} {gF : Nat → Int32} {gX : Nat → Int32} {gD : Nat → Int32} {nB : Int32} {gB : Nat → Int32} {f63 : Nat → Int32} (hf63 : f63 = (own_set gF (1 : Int32) se)) (hs3 : ¬ ((own_f10 p1 sh nB gB gN) = (0 : Int32))) (hs55 : (own_f10 p1 sh nB gB gN) = (1 : Int32)) (hc58 : ¬ (p2 < (gN 1))) (hc73 : p2 < (gN 2)) : f63 = own_f9f_AxF p1 p2 sh se fo fr rl gN gF gX gD nB gB := by
  subst hf63
  first | (simp only [own_f9f_AxF, if_neg hs3, if_pos hs55, if_neg hc58, if_pos hc73]; done) | (simp only [own_f9f_AxF, if_neg hs3, if_pos hs55, if_neg hc58, if_pos hc73]; rfl) | rfl
theorem own_lf_own_f9f_39 {p1 : Int32} {p2 : Int32} {sh : Int32} {se : Int32} {fo : Int32} {fr : Int32} {rl : Int32} {gN : Nat → Int32} {gF : Nat → Int32} {gX : Nat → Int32} {gD : Nat → Int32} {nB : Int32} {gB : Nat → Int32} {f70 : Nat → Int32} (hf70 : f70 = (own_set gX (1 : Int32) (2 : Int32))) (hs3 : ¬ ((own_f10 p1 sh nB gB gN) = (0 : Int32))) (hs55 : (own_f10 p1 sh nB gB gN) = (1 : Int32)) (hc58 : ¬ (p2 < (gN 1))) (hc73 : p2 < (gN 2)) : f70 = own_f9f_AxX p1 p2 sh se fo fr rl gN gF gX gD nB gB := by
  subst hf70
  first | (simp only [own_f9f_AxX, if_neg hs3, if_pos hs55, if_neg hc58, if_pos hc73]; done) | (simp only [own_f9f_AxX, if_neg hs3, if_pos hs55, if_neg hc58, if_pos hc73]; rfl) | rfl
theorem own_lf_own_f9f_40 {p1 : Int32} {p2 : Int32} {sh : Int32} {se : Int32} {fo : Int32} {fr : Int32} {rl : Int32} {gN : Nat → Int32} {gF : Nat → Int32} {gX : Nat → Int32} {gD : Nat → Int32} {nB : Int32} {gB : Nat → Int32} {f67 : Nat → Int32} (hf67 : f67 = (own_set gD (0 : Int32) (1 : Int32))) (hs3 : ¬ ((own_f10 p1 sh nB gB gN) = (0 : Int32))) (hs55 : (own_f10 p1 sh nB gB gN) = (1 : Int32)) (hc58 : ¬ (p2 < (gN 1))) (hc73 : p2 < (gN 2)) : f67 = own_f9f_AxD p1 p2 sh se fo fr rl gN gF gX gD nB gB := by
  subst hf67
  first | (simp only [own_f9f_AxD, if_neg hs3, if_pos hs55, if_neg hc58, if_pos hc73]; done) | (simp only [own_f9f_AxD, if_neg hs3, if_pos hs55, if_neg hc58, if_pos hc73]; rfl) | rfl
theorem own_lf_own_f9f_41 {p1 : Int32} {p2 : Int32} {sh : Int32} {se : Int32} {fo : Int32} {fr : Int32} {rl : Int32} {gN : Nat → Int32} {gF : Nat → Int32} {gX : Nat → Int32} {gD : Nat → Int32} {nB : Int32} {gB : Nat → Int32} (hs3 : ¬ ((own_f10 p1 sh nB gB gN) = (0 : Int32))) (hs55 : (own_f10 p1 sh nB gB gN) = (1 : Int32)) (hc58 : ¬ (p2 < (gN 1))) (hc73 : ¬ (p2 < (gN 2))) (hc76 : (own_f7 fo (1 : Int32)) = (0 : Int32)) : (some (.int (own_f13 (3 : Int32) gN)) : Option Value) = some (.int (own_f9f p1 p2 sh se fo fr rl gN gF gX gD nB gB)) := by
  first | (simp only [own_f9f, if_neg hs3, if_pos hs55, if_neg hc58, if_neg hc73, if_pos hc76]; done) | (simp only [own_f9f, if_neg hs3, if_pos hs55, if_neg hc58, if_neg hc73, if_pos hc76]; rfl) | rfl
theorem own_lf_own_f9f_42 {p1 : Int32} {p2 : Int32} {sh : Int32} {se : Int32} {fo : Int32} {fr : Int32} {rl : Int32} {gN : Nat → Int32} {gF : Nat → Int32} {gX : Nat → Int32} {gD : Nat → Int32} {nB : Int32} {gB : Nat → Int32} (hs3 : ¬ ((own_f10 p1 sh nB gB gN) = (0 : Int32))) (hs55 : (own_f10 p1 sh nB gB gN) = (1 : Int32)) (hc58 : ¬ (p2 < (gN 1))) (hc73 : ¬ (p2 < (gN 2))) (hc76 : (own_f7 fo (1 : Int32)) = (0 : Int32)) : (2 : Int32) = own_f9f_foundCount p1 p2 sh se fo fr rl gN gF gX gD nB gB := by
  first | (simp only [own_f9f_foundCount, if_neg hs3, if_pos hs55, if_neg hc58, if_neg hc73, if_pos hc76]; done) | (simp only [own_f9f_foundCount, if_neg hs3, if_pos hs55, if_neg hc58, if_neg hc73, if_pos hc76]; rfl) | rfl
theorem own_lf_own_f9f_43 {p1 : Int32} {p2 : Int32} {sh : Int32} {se : Int32} {fo : Int32} {fr : Int32} {rl : Int32} {gN : Nat → Int32} {gF : Nat → Int32} {gX : Nat → Int32} {gD : Nat → Int32} {nB : Int32} {gB : Nat → Int32} {f63 : Nat → Int32} {f79 : Nat → Int32} (hf63 : f63 = (own_set gF (1 : Int32) se)) (hf79 : f79 = (own_set f63 (2 : Int32) se)) (hs3 : ¬ ((own_f10 p1 sh nB gB gN) = (0 : Int32))) (hs55 : (own_f10 p1 sh nB gB gN) = (1 : Int32)) (hc58 : ¬ (p2 < (gN 1))) (hc73 : ¬ (p2 < (gN 2))) (hc76 : (own_f7 fo (1 : Int32)) = (0 : Int32)) : f79 = own_f9f_AxF p1 p2 sh se fo fr rl gN gF gX gD nB gB := by
  subst hf79
  subst hf63
  first | (simp only [own_f9f_AxF, if_neg hs3, if_pos hs55, if_neg hc58, if_neg hc73, if_pos hc76]; done) | (simp only [own_f9f_AxF, if_neg hs3, if_pos hs55, if_neg hc58, if_neg hc73, if_pos hc76]; rfl) | rfl
theorem own_lf_own_f9f_44 {p1 : Int32} {p2 : Int32} {sh : Int32} {se : Int32} {fo : Int32} {fr : Int32} {rl : Int32} {gN : Nat → Int32} {gF : Nat → Int32} {gX : Nat → Int32} {gD : Nat → Int32} {nB : Int32} {gB : Nat → Int32} {f70 : Nat → Int32} {f86 : Nat → Int32} (hf70 : f70 = (own_set gX (1 : Int32) (2 : Int32))) (hf86 : f86 = (own_set f70 (2 : Int32) (3 : Int32))) (hs3 : ¬ ((own_f10 p1 sh nB gB gN) = (0 : Int32))) (hs55 : (own_f10 p1 sh nB gB gN) = (1 : Int32)) (hc58 : ¬ (p2 < (gN 1))) (hc73 : ¬ (p2 < (gN 2))) (hc76 : (own_f7 fo (1 : Int32)) = (0 : Int32)) : f86 = own_f9f_AxX p1 p2 sh se fo fr rl gN gF gX gD nB gB := by
  subst hf86
  subst hf70
  first | (simp only [own_f9f_AxX, if_neg hs3, if_pos hs55, if_neg hc58, if_neg hc73, if_pos hc76]; done) | (simp only [own_f9f_AxX, if_neg hs3, if_pos hs55, if_neg hc58, if_neg hc73, if_pos hc76]; rfl) | rfl
theorem own_lf_own_f9f_45 {p1 : Int32} {p2 : Int32} {sh : Int32} {se : Int32} {fo : Int32} {fr : Int32} {rl : Int32} {gN : Nat → Int32} {gF : Nat → Int32} {gX : Nat → Int32} {gD : Nat → Int32} {nB : Int32} {gB : Nat → Int32} {f67 : Nat → Int32} {f83 : Nat → Int32} (hf67 : f67 = (own_set gD (0 : Int32) (1 : Int32))) (hf83 : f83 = (own_set f67 (1 : Int32) (2 : Int32))) (hs3 : ¬ ((own_f10 p1 sh nB gB gN) = (0 : Int32))) (hs55 : (own_f10 p1 sh nB gB gN) = (1 : Int32)) (hc58 : ¬ (p2 < (gN 1))) (hc73 : ¬ (p2 < (gN 2))) (hc76 : (own_f7 fo (1 : Int32)) = (0 : Int32)) : f83 = own_f9f_AxD p1 p2 sh se fo fr rl gN gF gX gD nB gB := by
  subst hf83
  subst hf67
  first | (simp only [own_f9f_AxD, if_neg hs3, if_pos hs55, if_neg hc58, if_neg hc73, if_pos hc76]; done) | (simp only [own_f9f_AxD, if_neg hs3, if_pos hs55, if_neg hc58, if_neg hc73, if_pos hc76]; rfl) | rfl
theorem own_lf_own_f9f_46 {p1 : Int32} {p2 : Int32} {sh : Int32} {se : Int32} {fo : Int32} {fr : Int32} {rl : Int32} {gN : Nat → Int32} {gF : Nat → Int32} {gX : Nat → Int32} {gD : Nat → Int32} {nB : Int32} {gB : Nat → Int32} (hs3 : ¬ ((own_f10 p1 sh nB gB gN) = (0 : Int32))) (hs55 : (own_f10 p1 sh nB gB gN) = (1 : Int32)) (hc58 : ¬ (p2 < (gN 1))) (hc73 : ¬ (p2 < (gN 2))) (hc76 : ¬ ((own_f7 fo (1 : Int32)) = (0 : Int32))) : (some (.int (own_f13 (2 : Int32) gN)) : Option Value) = some (.int (own_f9f p1 p2 sh se fo fr rl gN gF gX gD nB gB)) := by
  first | (simp only [own_f9f, if_neg hs3, if_pos hs55, if_neg hc58, if_neg hc73, if_neg hc76]; done) | (simp only [own_f9f, if_neg hs3, if_pos hs55, if_neg hc58, if_neg hc73, if_neg hc76]; rfl) | rfl
theorem own_lf_own_f9f_47 {p1 : Int32} {p2 : Int32} {sh : Int32} {se : Int32} {fo : Int32} {fr : Int32} {rl : Int32} {gN : Nat → Int32} {gF : Nat → Int32} {gX : Nat → Int32} {gD : Nat → Int32} {nB : Int32} {gB : Nat → Int32} (hs3 : ¬ ((own_f10 p1 sh nB gB gN) = (0 : Int32))) (hs55 : (own_f10 p1 sh nB gB gN) = (1 : Int32)) (hc58 : ¬ (p2 < (gN 1))) (hc73 : ¬ (p2 < (gN 2))) (hc76 : ¬ ((own_f7 fo (1 : Int32)) = (0 : Int32))) : (1 : Int32) = own_f9f_foundCount p1 p2 sh se fo fr rl gN gF gX gD nB gB := by
  first | (simp only [own_f9f_foundCount, if_neg hs3, if_pos hs55, if_neg hc58, if_neg hc73, if_neg hc76]; done) | (simp only [own_f9f_foundCount, if_neg hs3, if_pos hs55, if_neg hc58, if_neg hc73, if_neg hc76]; rfl) | rfl
theorem own_lf_own_f9f_48 {p1 : Int32} {p2 : Int32} {sh : Int32} {se : Int32} {fo : Int32} {fr : Int32} {rl : Int32} {gN : Nat → Int32} {gF : Nat → Int32} {gX : Nat → Int32} {gD : Nat → Int32} {nB : Int32} {gB : Nat → Int32} {f63 : Nat → Int32} (hf63 : f63 = (own_set gF (1 : Int32) se)) (hs3 : ¬ ((own_f10 p1 sh nB gB gN) = (0 : Int32))) (hs55 : (own_f10 p1 sh nB gB gN) = (1 : Int32)) (hc58 : ¬ (p2 < (gN 1))) (hc73 : ¬ (p2 < (gN 2))) (hc76 : ¬ ((own_f7 fo (1 : Int32)) = (0 : Int32))) : f63 = own_f9f_AxF p1 p2 sh se fo fr rl gN gF gX gD nB gB := by
  subst hf63
  first | (simp only [own_f9f_AxF, if_neg hs3, if_pos hs55, if_neg hc58, if_neg hc73, if_neg hc76]; done) | (simp only [own_f9f_AxF, if_neg hs3, if_pos hs55, if_neg hc58, if_neg hc73, if_neg hc76]; rfl) | rfl
theorem own_lf_own_f9f_49 {p1 : Int32} {p2 : Int32} {sh : Int32} {se : Int32} {fo : Int32} {fr : Int32} {rl : Int32} {gN : Nat → Int32} {gF : Nat → Int32} {gX : Nat → Int32} {gD : Nat → Int32} {nB : Int32} {gB : Nat → Int32} {f70 : Nat → Int32} (hf70 : f70 = (own_set gX (1 : Int32) (2 : Int32))) (hs3 : ¬ ((own_f10 p1 sh nB gB gN) = (0 : Int32))) (hs55 : (own_f10 p1 sh nB gB gN) = (1 : Int32)) (hc58 : ¬ (p2 < (gN 1))) (hc73 : ¬ (p2 < (gN 2))) (hc76 : ¬ ((own_f7 fo (1 : Int32)) = (0 : Int32))) : f70 = own_f9f_AxX p1 p2 sh se fo fr rl gN gF gX gD nB gB := by
  subst hf70
  first | (simp only [own_f9f_AxX, if_neg hs3, if_pos hs55, if_neg hc58, if_neg hc73, if_neg hc76]; done) | (simp only [own_f9f_AxX, if_neg hs3, if_pos hs55, if_neg hc58, if_neg hc73, if_neg hc76]; rfl) | rfl
theorem own_lf_own_f9f_50 {p1 : Int32} {p2 : Int32} {sh : Int32} {se : Int32} {fo : Int32} {fr : Int32} {rl : Int32} {gN : Nat → Int32} {gF : Nat → Int32} {gX : Nat → Int32} {gD : Nat → Int32} {nB : Int32} {gB : Nat → Int32} {f67 : Nat → Int32} (hf67 : f67 = (own_set gD (0 : Int32) (1 : Int32))) (hs3 : ¬ ((own_f10 p1 sh nB gB gN) = (0 : Int32))) (hs55 : (own_f10 p1 sh nB gB gN) = (1 : Int32)) (hc58 : ¬ (p2 < (gN 1))) (hc73 : ¬ (p2 < (gN 2))) (hc76 : ¬ ((own_f7 fo (1 : Int32)) = (0 : Int32))) : f67 = own_f9f_AxD p1 p2 sh se fo fr rl gN gF gX gD nB gB := by
  subst hf67
  first | (simp only [own_f9f_AxD, if_neg hs3, if_pos hs55, if_neg hc58, if_neg hc73, if_neg hc76]; done) | (simp only [own_f9f_AxD, if_neg hs3, if_pos hs55, if_neg hc58, if_neg hc73, if_neg hc76]; rfl) | rfl
theorem own_lf_own_f9f_51 {p1 : Int32} {p2 : Int32} {sh : Int32} {se : Int32} {fo : Int32} {fr : Int32} {rl : Int32} {gN : Nat → Int32} {gF : Nat → Int32} {gX : Nat → Int32} {gD : Nat → Int32} {nB : Int32} {gB : Nat → Int32} (hs3 : ¬ ((own_f10 p1 sh nB gB gN) = (0 : Int32))) (hs55 : ¬ ((own_f10 p1 sh nB gB gN) = (1 : Int32))) (hs90 : (own_f10 p1 sh nB gB gN) = (2 : Int32)) (hc93 : p2 < (gN 2)) : (some (.int (own_f13 (2 : Int32) gN)) : Option Value) = some (.int (own_f9f p1 p2 sh se fo fr rl gN gF gX gD nB gB)) := by
  first | (simp only [own_f9f, if_neg hs3, if_neg hs55, if_pos hs90, if_pos hc93]; done) | (simp only [own_f9f, if_neg hs3, if_neg hs55, if_pos hs90, if_pos hc93]; rfl) | rfl
theorem own_lf_own_f9f_52 {p1 : Int32} {p2 : Int32} {sh : Int32} {se : Int32} {fo : Int32} {fr : Int32} {rl : Int32} {gN : Nat → Int32} {gF : Nat → Int32} {gX : Nat → Int32} {gD : Nat → Int32} {nB : Int32} {gB : Nat → Int32} (hs3 : ¬ ((own_f10 p1 sh nB gB gN) = (0 : Int32))) (hs55 : ¬ ((own_f10 p1 sh nB gB gN) = (1 : Int32))) (hs90 : (own_f10 p1 sh nB gB gN) = (2 : Int32)) (hc93 : p2 < (gN 2)) : (0 : Int32) = own_f9f_foundCount p1 p2 sh se fo fr rl gN gF gX gD nB gB := by
  first | (simp only [own_f9f_foundCount, if_neg hs3, if_neg hs55, if_pos hs90, if_pos hc93]; done) | (simp only [own_f9f_foundCount, if_neg hs3, if_neg hs55, if_pos hs90, if_pos hc93]; rfl) | rfl
theorem own_lf_own_f9f_53 {p1 : Int32} {p2 : Int32} {sh : Int32} {se : Int32} {fo : Int32} {fr : Int32} {rl : Int32} {gN : Nat → Int32} {gF : Nat → Int32} {gX : Nat → Int32} {gD : Nat → Int32} {nB : Int32} {gB : Nat → Int32} (hs3 : ¬ ((own_f10 p1 sh nB gB gN) = (0 : Int32))) (hs55 : ¬ ((own_f10 p1 sh nB gB gN) = (1 : Int32))) (hs90 : (own_f10 p1 sh nB gB gN) = (2 : Int32)) (hc93 : p2 < (gN 2)) : gF = own_f9f_AxF p1 p2 sh se fo fr rl gN gF gX gD nB gB := by
  first | (simp only [own_f9f_AxF, if_neg hs3, if_neg hs55, if_pos hs90, if_pos hc93]; done) | (simp only [own_f9f_AxF, if_neg hs3, if_neg hs55, if_pos hs90, if_pos hc93]; rfl) | rfl
theorem own_lf_own_f9f_54 {p1 : Int32} {p2 : Int32} {sh : Int32} {se : Int32} {fo : Int32} {fr : Int32} {rl : Int32} {gN : Nat → Int32} {gF : Nat → Int32} {gX : Nat → Int32} {gD : Nat → Int32} {nB : Int32} {gB : Nat → Int32} (hs3 : ¬ ((own_f10 p1 sh nB gB gN) = (0 : Int32))) (hs55 : ¬ ((own_f10 p1 sh nB gB gN) = (1 : Int32))) (hs90 : (own_f10 p1 sh nB gB gN) = (2 : Int32)) (hc93 : p2 < (gN 2)) : gX = own_f9f_AxX p1 p2 sh se fo fr rl gN gF gX gD nB gB := by
  first | (simp only [own_f9f_AxX, if_neg hs3, if_neg hs55, if_pos hs90, if_pos hc93]; done) | (simp only [own_f9f_AxX, if_neg hs3, if_neg hs55, if_pos hs90, if_pos hc93]; rfl) | rfl
theorem own_lf_own_f9f_55 {p1 : Int32} {p2 : Int32} {sh : Int32} {se : Int32} {fo : Int32} {fr : Int32} {rl : Int32} {gN : Nat → Int32} {gF : Nat → Int32} {gX : Nat → Int32} {gD : Nat → Int32} {nB : Int32} {gB : Nat → Int32} (hs3 : ¬ ((own_f10 p1 sh nB gB gN) = (0 : Int32))) (hs55 : ¬ ((own_f10 p1 sh nB gB gN) = (1 : Int32))) (hs90 : (own_f10 p1 sh nB gB gN) = (2 : Int32)) (hc93 : p2 < (gN 2)) : gD = own_f9f_AxD p1 p2 sh se fo fr rl gN gF gX gD nB gB := by
  first | (simp only [own_f9f_AxD, if_neg hs3, if_neg hs55, if_pos hs90, if_pos hc93]; done) | (simp only [own_f9f_AxD, if_neg hs3, if_neg hs55, if_pos hs90, if_pos hc93]; rfl) | rfl
theorem own_lf_own_f9f_56 {p1 : Int32} {p2 : Int32} {sh : Int32} {se : Int32} {fo : Int32} {fr : Int32} {rl : Int32} {gN : Nat → Int32} {gF : Nat → Int32} {gX : Nat → Int32} {gD : Nat → Int32} {nB : Int32} {gB : Nat → Int32} (hs3 : ¬ ((own_f10 p1 sh nB gB gN) = (0 : Int32))) (hs55 : ¬ ((own_f10 p1 sh nB gB gN) = (1 : Int32))) (hs90 : (own_f10 p1 sh nB gB gN) = (2 : Int32)) (hc93 : ¬ (p2 < (gN 2))) : (some (.int (own_f13 (3 : Int32) gN)) : Option Value) = some (.int (own_f9f p1 p2 sh se fo fr rl gN gF gX gD nB gB)) := by
  first | (simp only [own_f9f, if_neg hs3, if_neg hs55, if_pos hs90, if_neg hc93]; done) | (simp only [own_f9f, if_neg hs3, if_neg hs55, if_pos hs90, if_neg hc93]; rfl) | rfl
theorem own_lf_own_f9f_57 {p1 : Int32} {p2 : Int32} {sh : Int32} {se : Int32} {fo : Int32} {fr : Int32} {rl : Int32} {gN : Nat → Int32} {gF : Nat → Int32} {gX : Nat → Int32} {gD : Nat → Int32} {nB : Int32} {gB : Nat → Int32} (hs3 : ¬ ((own_f10 p1 sh nB gB gN) = (0 : Int32))) (hs55 : ¬ ((own_f10 p1 sh nB gB gN) = (1 : Int32))) (hs90 : (own_f10 p1 sh nB gB gN) = (2 : Int32)) (hc93 : ¬ (p2 < (gN 2))) : (1 : Int32) = own_f9f_foundCount p1 p2 sh se fo fr rl gN gF gX gD nB gB := by
  first | (simp only [own_f9f_foundCount, if_neg hs3, if_neg hs55, if_pos hs90, if_neg hc93]; done) | (simp only [own_f9f_foundCount, if_neg hs3, if_neg hs55, if_pos hs90, if_neg hc93]; rfl) | rfl
theorem own_lf_own_f9f_58 {p1 : Int32} {p2 : Int32} {sh : Int32} {se : Int32} {fo : Int32} {fr : Int32} {rl : Int32} {gN : Nat → Int32} {gF : Nat → Int32} {gX : Nat → Int32} {gD : Nat → Int32} {nB : Int32} {gB : Nat → Int32} {f98 : Nat → Int32} (hf98 : f98 = (own_set gF (2 : Int32) se)) (hs3 : ¬ ((own_f10 p1 sh nB gB gN) = (0 : Int32))) (hs55 : ¬ ((own_f10 p1 sh nB gB gN) = (1 : Int32))) (hs90 : (own_f10 p1 sh nB gB gN) = (2 : Int32)) (hc93 : ¬ (p2 < (gN 2))) : f98 = own_f9f_AxF p1 p2 sh se fo fr rl gN gF gX gD nB gB := by
  subst hf98
  first | (simp only [own_f9f_AxF, if_neg hs3, if_neg hs55, if_pos hs90, if_neg hc93]; done) | (simp only [own_f9f_AxF, if_neg hs3, if_neg hs55, if_pos hs90, if_neg hc93]; rfl) | rfl
theorem own_lf_own_f9f_59 {p1 : Int32} {p2 : Int32} {sh : Int32} {se : Int32} {fo : Int32} {fr : Int32} {rl : Int32} {gN : Nat → Int32} {gF : Nat → Int32} {gX : Nat → Int32} {gD : Nat → Int32} {nB : Int32} {gB : Nat → Int32} {f105 : Nat → Int32} (hf105 : f105 = (own_set gX (2 : Int32) (3 : Int32))) (hs3 : ¬ ((own_f10 p1 sh nB gB gN) = (0 : Int32))) (hs55 : ¬ ((own_f10 p1 sh nB gB gN) = (1 : Int32))) (hs90 : (own_f10 p1 sh nB gB gN) = (2 : Int32)) (hc93 : ¬ (p2 < (gN 2))) : f105 = own_f9f_AxX p1 p2 sh se fo fr rl gN gF gX gD nB gB := by
  subst hf105
  first | (simp only [own_f9f_AxX, if_neg hs3, if_neg hs55, if_pos hs90, if_neg hc93]; done) | (simp only [own_f9f_AxX, if_neg hs3, if_neg hs55, if_pos hs90, if_neg hc93]; rfl) | rfl
theorem own_lf_own_f9f_60 {p1 : Int32} {p2 : Int32} {sh : Int32} {se : Int32} {fo : Int32} {fr : Int32} {rl : Int32} {gN : Nat → Int32} {gF : Nat → Int32} {gX : Nat → Int32} {gD : Nat → Int32} {nB : Int32} {gB : Nat → Int32} {f102 : Nat → Int32} (hf102 : f102 = (own_set gD (0 : Int32) (2 : Int32))) (hs3 : ¬ ((own_f10 p1 sh nB gB gN) = (0 : Int32))) (hs55 : ¬ ((own_f10 p1 sh nB gB gN) = (1 : Int32))) (hs90 : (own_f10 p1 sh nB gB gN) = (2 : Int32)) (hc93 : ¬ (p2 < (gN 2))) : f102 = own_f9f_AxD p1 p2 sh se fo fr rl gN gF gX gD nB gB := by
  subst hf102
  first | (simp only [own_f9f_AxD, if_neg hs3, if_neg hs55, if_pos hs90, if_neg hc93]; done) | (simp only [own_f9f_AxD, if_neg hs3, if_neg hs55, if_pos hs90, if_neg hc93]; rfl) | rfl
theorem own_lf_own_f9f_61 {p1 : Int32} {p2 : Int32} {sh : Int32} {se : Int32} {fo : Int32} {fr : Int32} {rl : Int32} {gN : Nat → Int32} {gF : Nat → Int32} {gX : Nat → Int32} {gD : Nat → Int32} {nB : Int32} {gB : Nat → Int32} (hs3 : ¬ ((own_f10 p1 sh nB gB gN) = (0 : Int32))) (hs55 : ¬ ((own_f10 p1 sh nB gB gN) = (1 : Int32))) (hs90 : ¬ ((own_f10 p1 sh nB gB gN) = (2 : Int32))) : (some (.int (own_f13 (3 : Int32) gN)) : Option Value) = some (.int (own_f9f p1 p2 sh se fo fr rl gN gF gX gD nB gB)) := by
  first | (simp only [own_f9f, if_neg hs3, if_neg hs55, if_neg hs90]; done) | (simp only [own_f9f, if_neg hs3, if_neg hs55, if_neg hs90]; rfl) | rfl
theorem own_lf_own_f9f_62 {p1 : Int32} {p2 : Int32} {sh : Int32} {se : Int32} {fo : Int32} {fr : Int32} {rl : Int32} {gN : Nat → Int32} {gF : Nat → Int32} {gX : Nat → Int32} {gD : Nat → Int32} {nB : Int32} {gB : Nat → Int32} (hs3 : ¬ ((own_f10 p1 sh nB gB gN) = (0 : Int32))) (hs55 : ¬ ((own_f10 p1 sh nB gB gN) = (1 : Int32))) (hs90 : ¬ ((own_f10 p1 sh nB gB gN) = (2 : Int32))) : (0 : Int32) = own_f9f_foundCount p1 p2 sh se fo fr rl gN gF gX gD nB gB := by
  first | (simp only [own_f9f_foundCount, if_neg hs3, if_neg hs55, if_neg hs90]; done) | (simp only [own_f9f_foundCount, if_neg hs3, if_neg hs55, if_neg hs90]; rfl) | rfl
theorem own_lf_own_f9f_63 {p1 : Int32} {p2 : Int32} {sh : Int32} {se : Int32} {fo : Int32} {fr : Int32} {rl : Int32} {gN : Nat → Int32} {gF : Nat → Int32} {gX : Nat → Int32} {gD : Nat → Int32} {nB : Int32} {gB : Nat → Int32} (hs3 : ¬ ((own_f10 p1 sh nB gB gN) = (0 : Int32))) (hs55 : ¬ ((own_f10 p1 sh nB gB gN) = (1 : Int32))) (hs90 : ¬ ((own_f10 p1 sh nB gB gN) = (2 : Int32))) : gF = own_f9f_AxF p1 p2 sh se fo fr rl gN gF gX gD nB gB := by
  first | (simp only [own_f9f_AxF, if_neg hs3, if_neg hs55, if_neg hs90]; done) | (simp only [own_f9f_AxF, if_neg hs3, if_neg hs55, if_neg hs90]; rfl) | rfl
theorem own_lf_own_f9f_64 {p1 : Int32} {p2 : Int32} {sh : Int32} {se : Int32} {fo : Int32} {fr : Int32} {rl : Int32} {gN : Nat → Int32} {gF : Nat → Int32} {gX : Nat → Int32} {gD : Nat → Int32} {nB : Int32} {gB : Nat → Int32} (hs3 : ¬ ((own_f10 p1 sh nB gB gN) = (0 : Int32))) (hs55 : ¬ ((own_f10 p1 sh nB gB gN) = (1 : Int32))) (hs90 : ¬ ((own_f10 p1 sh nB gB gN) = (2 : Int32))) : gX = own_f9f_AxX p1 p2 sh se fo fr rl gN gF gX gD nB gB := by
  first | (simp only [own_f9f_AxX, if_neg hs3, if_neg hs55, if_neg hs90]; done) | (simp only [own_f9f_AxX, if_neg hs3, if_neg hs55, if_neg hs90]; rfl) | rfl
theorem own_lf_own_f9f_65 {p1 : Int32} {p2 : Int32} {sh : Int32} {se : Int32} {fo : Int32} {fr : Int32} {rl : Int32} {gN : Nat → Int32} {gF : Nat → Int32} {gX : Nat → Int32} {gD : Nat → Int32} {nB : Int32} {gB : Nat → Int32} (hs3 : ¬ ((own_f10 p1 sh nB gB gN) = (0 : Int32))) (hs55 : ¬ ((own_f10 p1 sh nB gB gN) = (1 : Int32))) (hs90 : ¬ ((own_f10 p1 sh nB gB gN) = (2 : Int32))) : gD = own_f9f_AxD p1 p2 sh se fo fr rl gN gF gX gD nB gB := by
  first | (simp only [own_f9f_AxD, if_neg hs3, if_neg hs55, if_neg hs90]; done) | (simp only [own_f9f_AxD, if_neg hs3, if_neg hs55, if_neg hs90]; rfl) | rfl
set_option maxRecDepth 65536 in
set_option maxHeartbeats 40000000 in
theorem rm9f (l : Launch) (Z : State) (a0 : Array Value) (hw : ∀ d ∈ tables_1, d.before a0 Z = true) (ws : List Jvm.Cond) (r0 : Addr) (p1 : Int32) (p2 : Int32) (xN : Addr) (xE : Addr) (xF : Addr) (xX : Addr) (xD : Addr) (sh : Int32) (xB : Addr) (se : Int32) (fo : Int32) (fr : Int32) (rl : Int32) (gN : Nat → Int32) (gF : Nat → Int32) (gX : Nat → Int32) (gD : Nat → Int32) (nB : Int32) (gB : Nat → Int32) (h0 : Heap) (n0 : Nat) (Z0 : n0 ≤ h0.size) (F_numbers_r0_0 : Fld Z h0 r0 "com/example/reachability/reachability/CandidateList" "numbers" "[I" (.ref xN)) (F_elements_r0_0 : Fld Z h0 r0 "com/example/reachability/reachability/CandidateList" "elements" "[I" (.ref xE)) (F_foundIn_r0_0 : Fld Z h0 r0 "com/example/reachability/reachability/CandidateList" "foundIn" "[I" (.ref xF)) (F_next_r0_0 : Fld Z h0 r0 "com/example/reachability/reachability/CandidateList" "next" "[I" (.ref xX)) (F_found_r0_0 : Fld Z h0 r0 "com/example/reachability/reachability/CandidateList" "found" "[I" (.ref xD)) (F_bucketShift_r0_0 : Fld Z h0 r0 "com/example/reachability/reachability/CandidateList" "bucketShift" "I" (.int sh)) (F_bucketStart_r0_0 : Fld Z h0 r0 "com/example/reachability/reachability/CandidateList" "bucketStart" "[I" (.ref xB)) (E_r0_0 : Exa Z h0 r0 "com/example/reachability/reachability/CandidateList") (F_search_r0_0 : Fld Z h0 r0 "com/example/reachability/reachability/CandidateList" "search" "I" (.int se)) (F_foundCount_r0_0 : Fld Z h0 r0 "com/example/reachability/reachability/CandidateList" "foundCount" "I" (.int (0 : Int32))) (F_firstOnly_r0_0 : Fld Z h0 r0 "com/example/reachability/reachability/CandidateList" "firstOnly" "Z" (.int fo)) (F_forRuns_r0_0 : Fld Z h0 r0 "com/example/reachability/reachability/CandidateList" "forRuns" "Z" (.int fr)) (F_runsLength_r0_0 : Fld Z h0 r0 "com/example/reachability/reachability/CandidateList" "runsLength" "I" (.int rl)) (A_xN_0 : own_Arf Z h0 xN .int (3 : Int32) (fun i => .int (gN i))) (A_xF_0 : own_Arf Z h0 xF .int (3 : Int32) (fun i => .int (gF i))) (A_xX_0 : own_Arf Z h0 xX .int (3 : Int32) (fun i => .int (gX i))) (A_xD_0 : own_Arf Z h0 xD .int (3 : Int32) (fun i => .int (gD i))) (A_xB_0 : own_Arf Z h0 xB .int nB (fun i => .int (gB i))) (ge_r0 : n0 ≤ r0) (ge_xF : n0 ≤ xF) (ge_xX : n0 ≤ xX) (ge_xD : n0 ≤ xD) (ne_xN_xF : xN ≠ xF) (ne_xN_xX : xN ≠ xX) (ne_xN_xD : xN ≠ xD) (ne_xN_xB : xN ≠ xB) (ne_xF_xX : xF ≠ xX) (ne_xF_xD : xF ≠ xD) (ne_xF_xB : xF ≠ xB) (ne_xX_xD : xX ≠ xD) (ne_xX_xB : xX ≠ xB) (ne_xD_xB : xD ≠ xB) (hp : own_okS p1 sh nB gB gN ∧ (∀ i : Nat, i < 3 → ¬ gF i = se)) :
    MetFree l (⟨"com/example/reachability/reachability/CandidateList", "find", "(II)I"⟩ : MethodName) (head1 (Jvm.Cond.code (⟨"com/example/reachability/reachability/CandidateList", "find", "(II)I"⟩ : MethodName) prog_2_method_12_code 5 (some .int) :: ws) rm9f_room) (fun a U => a = #[(.ref r0), (.int p1), (.int p2)] ∧ Z.Warmed39 U.vm ∧ U.heap = h0) (fun _ _ _ _ _ => True) (fun _ U o U' => ∃ v L, o = .returned v ∧ Qrm9f Z r0 p1 p2 xN xE xF xX xD sh xB se fo fr rl gN gF gX gD nB gB h0 n0 v U'.heap L ∧ FrameEnd U o U' L rm9f_room.cells rm9f_room.slots) := by
  refine MetFree.of_bodySF (plainFor_of_name pn_9) hisR ?_
  intro p e s m args below meth c s₁ Bd hml0 hP hK
  obtain ⟨rfl, hZ, hh⟩ := hP
  have hx := Bd.exec
  have hby := Bd.bytes
  have hml : c.maxLocals = 5 := hml0
  have hown : s.vm.findClass "com/example/reachability/reachability/CandidateList" = some m.cls := findClass_of_methodNamed Bd.named
  have hnm := (name_of_methodNamed Bd.named Bd.method).1
  have hlk : meth.locks = false := BodyLoose.notSynchronized Bd
  have X0 : Stand p l e rm9f_room s m #[(.ref r0), (.int p1), (.int p2)] below meth c s₁ [] 0 0 := Stand.of_body Bd
  have e0 : s₁.heap = h0 := by rw [← hh, Bd.state]; rfl
  have N0 := Fr.nil n0
  show own_Fin p.tables e below s (Qrm9f Z r0 p1 p2 xN xE xF xX xD sh xB se fo fr rl gN gF gX gD nB gB h0 n0) rm9f_room.cells rm9f_room.slots (s₁.setTop (entryFrame m #[(.ref r0), (.int p1), (.int p2)] 5))
  rw [ef_9]
  show own_Fin _ _ _ _ _ _ _ (s₁.setTop (mkF m 0 #[.val (.ref r0), .val (.int p1), .val (.int p2), .unset, .unset] []))
  have K0 := Keep.refl h0 [r0, xF, xX, xD]
  refine own_go (fun _ k => XS.aloadN X0.here hx rfl (hb hby d9_0) rfl rfl k) ?_
  refine own_go (fun _ k => XS.aloadN X0.here hx rfl (hb hby d9_1) rfl rfl k) ?_
  refine own_go (fun _ k => XS.iloadN X0.here hx rfl (hb hby d9_2) rfl k) ?_
  obtain ⟨cq1, kq1, q1a, q1b, q1c⟩ := isOf hZ e0 E_r0_0
  obtain ⟨_, _, ⟨T1, L1, k1, n1⟩, -, X1, ⟨Lc1, hQ1, l1, y1, z1⟩, st1⟩ := X0.virtualBack hx (y := (⟨"com/example/reachability/reachability/CandidateList", "first", "(I)I"⟩ : MethodName)) (z := (⟨"com/example/reachability/reachability/CandidateList", "first", "(I)I"⟩ : MethodName)) hown (mvT hZ (hw _ (List.mem_of_getElem? (i := 66) rfl))) (mvT hZ (hw _ (List.mem_of_getElem? (i := 67) rfl))) (notFace_of_selects (args := #[]) (mvT hZ (hw _ (List.mem_of_getElem? (i := 69) rfl)))) (mvT hZ (hw _ (List.mem_of_getElem? (i := 69) rfl))) (mvT hZ (hw _ (List.mem_of_getElem? (i := 68) rfl))) (by decide) (backOf (W := 1) (rm10 l Z a0 hw [] r0 p1 sh xB nB gB xN gN h0 n0 Z0 F_bucketShift_r0_0 F_bucketStart_r0_0 A_xB_0 F_numbers_r0_0 A_xN_0 (own_okS1 hp.1)) hZ (hw _ (List.mem_of_getElem? (i := 70) rfl)) (hw _ (List.mem_of_getElem? (i := 6) rfl)) (by decide) (by decide)) q1a q1c (g := (mkF m 3 #[.val (.ref r0), .val (.int p1), .val (.int p2), .unset, .unset] [(.int p1), (.ref r0), (.ref r0)])) rfl (by rw [hml]; rfl) (Steps.refl _) (argsL := [(.int p1)]) (rest := [(.ref r0)]) (lenOf own_pd428 rfl) rfl (by show 2 * 0 + _ ≤ _; exact Nat.le_of_eq rfl) (hb hby d9_3) (fun _ _ => ⟨rfl, e0, (by decide : 0 + 0 ≤ _), (by decide : 0 + 0 ≤ _)⟩)
  dsimp only [Pt.U, Pt.locs, Pt.cells, Pt.slots] at X1 l1 y1 z1 st1 hQ1
  replace y1 : 0 = k1 := y1.symm
  replace z1 : 0 = n1 := z1.symm
  subst y1 z1
  obtain ⟨rfl, N1q, e1⟩ := hQ1
  have N1 : Fr n0 L1 := by rw [l1]; exact Fr.app N0 N1q
  refine own_go (fun tg k => st1.trans k) ?_
  show own_Fin _ _ _ _ _ _ _ (T1.setTop (mkF m 6 #[.val (.ref r0), .val (.int p1), .val (.int p2), .unset, .unset] [(.int (own_f10 p1 sh nB gB gN)), (.ref r0)]))
  obtain ⟨cq2, q2, q2'⟩ := E_r0_0.cell
  obtain ⟨_, _, ⟨T2, L2, k2, n2⟩, -, X2, ⟨Lc2, hQ2, l2, y2, z2⟩, st2⟩ := X1.privateBack hx (y := (⟨"com/example/reachability/reachability/CandidateList", "open", "(I)I"⟩ : MethodName)) hown (mvT hZ (hw _ (List.mem_of_getElem? (i := 74) rfl))) (mvT hZ (hw _ (List.mem_of_getElem? (i := 75) rfl))) (own_selpriv (z := (⟨"com/example/reachability/reachability/CandidateList", "satisfied", "()Z"⟩ : MethodName)) rfl (mvT (args := #[]) hZ (hw _ (List.mem_of_getElem? (i := 45) rfl))) (Cond.privateMethod_at (mvP hZ (hw _ (List.mem_of_getElem? (i := 76) rfl)) (args := #[]))) (mvT hZ (hw _ (List.mem_of_getElem? (i := 75) rfl))) (by decide)) (Cond.privateMethod_at (mvP hZ (hw _ (List.mem_of_getElem? (i := 76) rfl)) (args := #[]))) (mvT hZ (hw _ (List.mem_of_getElem? (i := 77) rfl))) (by decide) (backOf (W := 0) (rm12f l Z a0 hw [] r0 (own_f10 p1 sh nB gB gN) xN gN xF gF se h0 n0 Z0 F_numbers_r0_0 A_xN_0 F_foundIn_r0_0 A_xF_0 F_search_r0_0 (own_opn hp.1 hp.2)) hZ (hw _ (List.mem_of_getElem? (i := 77) rfl)) (hw _ (List.mem_of_getElem? (i := 6) rfl)) (by decide) (by decide)) (g := (mkF m 6 #[.val (.ref r0), .val (.int p1), .val (.int p2), .unset, .unset] [(.int (own_f10 p1 sh nB gB gN)), (.ref r0)])) rfl (by rw [hml]; rfl) (Steps.refl _) (a := r0) (by rw [e1]; exact q2) q2' (argsL := [(.int (own_f10 p1 sh nB gB gN))]) (rest := []) (lenOf own_pd428 rfl) rfl (by show 2 * 0 + _ ≤ _; exact Nat.le_of_eq rfl) (hb hby d9_6) (fun _ _ => ⟨rfl, e1, (by decide : 0 + 0 ≤ _), (by decide : 0 + 0 ≤ _)⟩)
  dsimp only [Pt.U, Pt.locs, Pt.cells, Pt.slots] at X2 l2 y2 z2 st2 hQ2
  replace y2 : 0 = k2 := y2.symm
  replace z2 : 0 = n2 := z2.symm
  subst y2 z2
  obtain ⟨rfl, N2q, e2⟩ := hQ2
  have N2 : Fr n0 L2 := by rw [l2]; exact Fr.app N1 N2q
  refine own_go (fun tg k => st2.trans k) ?_
  show own_Fin _ _ _ _ _ _ _ (T2.setTop (mkF m 9 #[.val (.ref r0), .val (.int p1), .val (.int p2), .unset, .unset] [(.int (own_f10 p1 sh nB gB gN))]))
  by_cases hs3 : (own_f10 p1 sh nB gB gN) = (0 : Int32)
  · try rw [hs3]
    show own_Fin _ _ _ _ _ _ _ (T2.setTop (mkF m 9 #[.val (.ref r0), .val (.int p1), .val (.int p2), .unset, .unset] [(.int (0 : Int32))]))
    refine own_go (fun _ k => XS.istoreN X2.here hx rfl (hb hby d9_9) rfl (l' := #[.val (.ref r0), .val (.int p1), .val (.int p2), .val (.int (0 : Int32)), .unset]) rfl k) ?_
    show own_Fin _ _ _ _ _ _ _ (T2.setTop (mkF m 10 #[.val (.ref r0), .val (.int p1), .val (.int p2), .val (.int (0 : Int32)), .unset] []))
    refine own_go (fun _ k => XS.iloadN X2.here hx rfl (hb hby d9_10) rfl k) ?_
    refine own_go (fun _ k => XS.aloadN X2.here hx rfl (hb hby d9_11) rfl rfl k) ?_
    obtain ⟨T4, X4, e4, st4⟩ := getF X2 hx hZ hown (host := "") (Or.inl (hw _ (List.mem_of_getElem? (i := 18) rfl))) Via.refl e2 F_numbers_r0_0 (g := (mkF m 12 #[.val (.ref r0), .val (.int p1), .val (.int p2), .val (.int (0 : Int32)), .unset] [(.ref r0), (.int (0 : Int32))])) rfl rfl (hb hby d9_12)
    refine own_go (fun tg k => st4 tg k) ?_
    show own_Fin _ _ _ _ _ _ _ (T4.setTop (mkF m 15 #[.val (.ref r0), .val (.int p1), .val (.int p2), .val (.int (0 : Int32)), .unset] [(.ref xN), (.int (0 : Int32))]))
    refine own_go (fun tg k => own_alen X4 hx hZ e4 A_xN_0 (g := (mkF m 15 #[.val (.ref r0), .val (.int p1), .val (.int p2), .val (.int (0 : Int32)), .unset] [(.ref xN), (.int (0 : Int32))])) rfl rfl (hb hby d9_15) tg k) ?_
    show own_Fin _ _ _ _ _ _ _ (T4.setTop (mkF m 16 #[.val (.ref r0), .val (.int p1), .val (.int p2), .val (.int (0 : Int32)), .unset] [(.int (3 : Int32)), (.int (0 : Int32))]))
    refine own_go (fun _ k => XS.icmpNo X4.here hx rfl (hb hby d9_16) rfl (tlt (by decide)).2.1 k) ?_
    show own_Fin _ _ _ _ _ _ _ (T4.setTop (mkF m 19 #[.val (.ref r0), .val (.int p1), .val (.int p2), .val (.int (0 : Int32)), .unset] []))
    refine own_go (fun _ k => XS.aloadN X4.here hx rfl (hb hby d9_19) rfl rfl k) ?_
    obtain ⟨T5, X5, e5, st5⟩ := getF X4 hx hZ hown (host := "") (Or.inl (hw _ (List.mem_of_getElem? (i := 18) rfl))) Via.refl e4 F_numbers_r0_0 (g := (mkF m 20 #[.val (.ref r0), .val (.int p1), .val (.int p2), .val (.int (0 : Int32)), .unset] [(.ref r0)])) rfl rfl (hb hby d9_20)
    refine own_go (fun tg k => st5 tg k) ?_
    show own_Fin _ _ _ _ _ _ _ (T5.setTop (mkF m 23 #[.val (.ref r0), .val (.int p1), .val (.int p2), .val (.int (0 : Int32)), .unset] [(.ref xN)]))
    refine own_go (fun _ k => XS.iloadN X5.here hx rfl (hb hby d9_23) rfl k) ?_
    refine own_go (fun tg k => own_iaload X5 hx hZ e5 A_xN_0 (j := (0 : Int32)) ⟨by decide, by decide⟩ (x := (gN 0)) rfl (g := (mkF m 24 #[.val (.ref r0), .val (.int p1), .val (.int p2), .val (.int (0 : Int32)), .unset] [(.int (0 : Int32)), (.ref xN)])) rfl rfl (hb hby d9_24) tg k) ?_
    show own_Fin _ _ _ _ _ _ _ (T5.setTop (mkF m 25 #[.val (.ref r0), .val (.int p1), .val (.int p2), .val (.int (0 : Int32)), .unset] [(.int (gN 0))]))
    refine own_go (fun _ k => XS.iloadN X5.here hx rfl (hb hby d9_25) rfl k) ?_
    show own_Fin _ _ _ _ _ _ _ (T5.setTop (mkF m 26 #[.val (.ref r0), .val (.int p1), .val (.int p2), .val (.int (0 : Int32)), .unset] [(.int p2), (.int (gN 0))]))
    by_cases hc6 : p2 < (gN 0)
    · refine own_go (fun _ k => XS.icmpYes X5.here hx rfl (pc0 := 26) (pc' := 86) rfl (hb hby d9_26) rfl (tlt hc6).2.2.1 (by decide) (by decide) k) ?_
      show own_Fin _ _ _ _ _ _ _ (T5.setTop (mkF m 86 #[.val (.ref r0), .val (.int p1), .val (.int p2), .val (.int (0 : Int32)), .unset] []))
      refine own_go (fun _ k => XS.aloadN X5.here hx rfl (hb hby d9_86) rfl rfl k) ?_
      refine own_go (fun _ k => XS.iloadN X5.here hx rfl (hb hby d9_87) rfl k) ?_
      obtain ⟨cq7, q7, q7'⟩ := E_r0_0.cell
      obtain ⟨_, _, ⟨T7, L7, k7, n7⟩, -, X7, ⟨Lc7, hQ7, l7, y7, z7⟩, st7⟩ := X5.privateBack hx (y := (⟨"com/example/reachability/reachability/CandidateList", "numberOf", "(I)I"⟩ : MethodName)) hown (mvT hZ (hw _ (List.mem_of_getElem? (i := 78) rfl))) (mvT hZ (hw _ (List.mem_of_getElem? (i := 79) rfl))) (own_selpriv (z := (⟨"com/example/reachability/reachability/CandidateList", "satisfied", "()Z"⟩ : MethodName)) rfl (mvT (args := #[]) hZ (hw _ (List.mem_of_getElem? (i := 45) rfl))) (Cond.privateMethod_at (mvP hZ (hw _ (List.mem_of_getElem? (i := 80) rfl)) (args := #[]))) (mvT hZ (hw _ (List.mem_of_getElem? (i := 79) rfl))) (by decide)) (Cond.privateMethod_at (mvP hZ (hw _ (List.mem_of_getElem? (i := 80) rfl)) (args := #[]))) (mvT hZ (hw _ (List.mem_of_getElem? (i := 81) rfl))) (by decide) (backOf (W := 0) (rm13 l Z a0 hw [] r0 (0 : Int32) xN gN h0 n0 Z0 F_numbers_r0_0 A_xN_0 (by decide)) hZ (hw _ (List.mem_of_getElem? (i := 81) rfl)) (hw _ (List.mem_of_getElem? (i := 6) rfl)) (by decide) (by decide)) (g := (mkF m 88 #[.val (.ref r0), .val (.int p1), .val (.int p2), .val (.int (0 : Int32)), .unset] [(.int (0 : Int32)), (.ref r0)])) rfl (by rw [hml]; rfl) (Steps.refl _) (a := r0) (by rw [e5]; exact q7) q7' (argsL := [(.int (0 : Int32))]) (rest := []) (lenOf own_pd428 rfl) rfl (by show 2 * 0 + _ ≤ _; exact Nat.le_of_eq rfl) (hb hby d9_88) (fun _ _ => ⟨rfl, e5, (by decide : 0 + 0 ≤ _), (by decide : 0 + 0 ≤ _)⟩)
      dsimp only [Pt.U, Pt.locs, Pt.cells, Pt.slots] at X7 l7 y7 z7 st7 hQ7
      replace y7 : 0 = k7 := y7.symm
      replace z7 : 0 = n7 := z7.symm
      subst y7 z7
      obtain ⟨rfl, N7q, e7⟩ := hQ7
      have N7 : Fr n0 L7 := by rw [l7]; exact Fr.app N2 N7q
      refine own_go (fun tg k => st7.trans k) ?_
      show own_Fin _ _ _ _ _ _ _ (T7.setTop (mkF m 91 #[.val (.ref r0), .val (.int p1), .val (.int p2), .val (.int (0 : Int32)), .unset] [(.int (own_f13 (0 : Int32) gN))]))
      refine own_ret X7 hx hlk Bd.returns rfl (Or.inl ⟨rfl, by simp, _, rfl⟩) (hb hby d9_91) (Nat.le_of_ble_eq_true rfl) (Nat.le_of_ble_eq_true rfl) ?_
      rw [e7]
      refine ⟨(own_lf_own_f9f_1 (p1 := p1) (p2 := p2) (sh := sh) (se := se) (fo := fo) (fr := fr) (rl := rl) (gN := gN) (gF := gF) (gX := gX) (gD := gD) (nB := nB) (gB := gB) hs3 hc6), N7, K0, ?_, ?_, ?_, ?_, ?_, ?_, ?_, E_r0_0, ?_, (by rw [← (own_lf_own_f9f_2 (p1 := p1) (p2 := p2) (sh := sh) (se := se) (fo := fo) (fr := fr) (rl := rl) (gN := gN) (gF := gF) (gX := gX) (gD := gD) (nB := nB) (gB := gB) hs3 hc6)]; exact F_foundCount_r0_0), ?_, ?_, ?_, (by rw [← (own_lf_own_f9f_3 (p1 := p1) (p2 := p2) (sh := sh) (se := se) (fo := fo) (fr := fr) (rl := rl) (gN := gN) (gF := gF) (gX := gX) (gD := gD) (nB := nB) (gB := gB) hs3 hc6)]; exact A_xF_0), (by rw [← (own_lf_own_f9f_4 (p1 := p1) (p2 := p2) (sh := sh) (se := se) (fo := fo) (fr := fr) (rl := rl) (gN := gN) (gF := gF) (gX := gX) (gD := gD) (nB := nB) (gB := gB) hs3 hc6)]; exact A_xX_0), (by rw [← (own_lf_own_f9f_5 (p1 := p1) (p2 := p2) (sh := sh) (se := se) (fo := fo) (fr := fr) (rl := rl) (gN := gN) (gF := gF) (gX := gX) (gD := gD) (nB := nB) (gB := gB) hs3 hc6)]; exact A_xD_0)⟩
      · first | (exact F_numbers_r0_0) | (simp only [if_pos hs3, if_pos hc6]; exact F_numbers_r0_0)
      · first | (exact F_elements_r0_0) | (simp only [if_pos hs3, if_pos hc6]; exact F_elements_r0_0)
      · first | (exact F_foundIn_r0_0) | (simp only [if_pos hs3, if_pos hc6]; exact F_foundIn_r0_0)
      · first | (exact F_next_r0_0) | (simp only [if_pos hs3, if_pos hc6]; exact F_next_r0_0)
      · first | (exact F_found_r0_0) | (simp only [if_pos hs3, if_pos hc6]; exact F_found_r0_0)
      · first | (exact F_bucketShift_r0_0) | (simp only [if_pos hs3, if_pos hc6]; exact F_bucketShift_r0_0)
      · first | (exact F_bucketStart_r0_0) | (simp only [if_pos hs3, if_pos hc6]; exact F_bucketStart_r0_0)
      · first | (exact F_search_r0_0) | (simp only [if_pos hs3, if_pos hc6]; exact F_search_r0_0)
      · first | (exact F_firstOnly_r0_0) | (simp only [if_pos hs3, if_pos hc6]; exact F_firstOnly_r0_0)
      · first | (exact F_forRuns_r0_0) | (simp only [if_pos hs3, if_pos hc6]; exact F_forRuns_r0_0)
      · first | (exact F_runsLength_r0_0) | (simp only [if_pos hs3, if_pos hc6]; exact F_runsLength_r0_0)
    · refine own_go (fun _ k => XS.icmpNo X5.here hx rfl (hb hby d9_26) rfl (flt hc6).2.2.1 k) ?_
      show own_Fin _ _ _ _ _ _ _ (T5.setTop (mkF m 29 #[.val (.ref r0), .val (.int p1), .val (.int p2), .val (.int (0 : Int32)), .unset] []))
      refine own_go (fun _ k => XS.aloadN X5.here hx rfl (hb hby d9_29) rfl rfl k) ?_
      obtain ⟨cq8, kq8, q8a, q8b, q8c⟩ := isOf hZ e5 E_r0_0
      obtain ⟨_, _, ⟨T8, L8, k8, n8⟩, -, X8, ⟨Lc8, hQ8, l8, y8, z8⟩, st8⟩ := X5.virtualBack hx (y := (⟨"com/example/reachability/reachability/CandidateList", "satisfied", "()Z"⟩ : MethodName)) (z := (⟨"com/example/reachability/reachability/CandidateList", "satisfied", "()Z"⟩ : MethodName)) hown (mvT hZ (hw _ (List.mem_of_getElem? (i := 82) rfl))) (mvT hZ (hw _ (List.mem_of_getElem? (i := 43) rfl))) (notFace_of_selects (args := #[]) (mvT hZ (hw _ (List.mem_of_getElem? (i := 45) rfl)))) (mvT hZ (hw _ (List.mem_of_getElem? (i := 45) rfl))) (mvT hZ (hw _ (List.mem_of_getElem? (i := 44) rfl))) (by decide) (backOf (W := 0) (rm7 l Z a0 hw [] r0 fo (0 : Int32) h0 n0 Z0 F_firstOnly_r0_0 F_foundCount_r0_0) hZ (hw _ (List.mem_of_getElem? (i := 46) rfl)) (hw _ (List.mem_of_getElem? (i := 6) rfl)) (by decide) (by decide)) q8a q8c (g := (mkF m 30 #[.val (.ref r0), .val (.int p1), .val (.int p2), .val (.int (0 : Int32)), .unset] [(.ref r0)])) rfl (by rw [hml]; rfl) (Steps.refl _) (argsL := []) (rest := []) (lenOf own_pd429 rfl) rfl (by show 2 * 0 + _ ≤ _; exact Nat.le_of_eq rfl) (hb hby d9_30) (fun _ _ => ⟨rfl, e5, (by decide : 0 + 0 ≤ _), (by decide : 0 + 0 ≤ _)⟩)
      dsimp only [Pt.U, Pt.locs, Pt.cells, Pt.slots] at X8 l8 y8 z8 st8 hQ8
      replace y8 : 0 = k8 := y8.symm
      replace z8 : 0 = n8 := z8.symm
      subst y8 z8
      obtain ⟨rfl, N8q, e8⟩ := hQ8
      have N8 : Fr n0 L8 := by rw [l8]; exact Fr.app N2 N8q
      refine own_go (fun tg k => st8.trans k) ?_
      show own_Fin _ _ _ _ _ _ _ (T8.setTop (mkF m 33 #[.val (.ref r0), .val (.int p1), .val (.int p2), .val (.int (0 : Int32)), .unset] [(.int (own_f7 fo (0 : Int32)))]))
      have hc33 : (own_f7 fo (0 : Int32)) = (0 : Int32) := own_sat0 _
      refine own_go (fun _ k => XS.ifNo X8.here hx rfl (hb hby d9_33) rfl ((if0 _ _).trans (teq hc33).2) k) ?_
      show own_Fin _ _ _ _ _ _ _ (T8.setTop (mkF m 36 #[.val (.ref r0), .val (.int p1), .val (.int p2), .val (.int (0 : Int32)), .unset] []))
      refine own_go (fun _ k => XS.aloadN X8.here hx rfl (hb hby d9_36) rfl rfl k) ?_
      obtain ⟨T9, X9, e9, st9⟩ := getF X8 hx hZ hown (host := "") (Or.inl (hw _ (List.mem_of_getElem? (i := 22) rfl))) Via.refl e8 F_foundIn_r0_0 (g := (mkF m 37 #[.val (.ref r0), .val (.int p1), .val (.int p2), .val (.int (0 : Int32)), .unset] [(.ref r0)])) rfl rfl (hb hby d9_37)
      refine own_go (fun tg k => st9 tg k) ?_
      show own_Fin _ _ _ _ _ _ _ (T9.setTop (mkF m 40 #[.val (.ref r0), .val (.int p1), .val (.int p2), .val (.int (0 : Int32)), .unset] [(.ref xF)]))
      refine own_go (fun _ k => XS.iloadN X9.here hx rfl (hb hby d9_40) rfl k) ?_
      refine own_go (fun _ k => XS.aloadN X9.here hx rfl (hb hby d9_41) rfl rfl k) ?_
      obtain ⟨T10, X10, e10, st10⟩ := getF X9 hx hZ hown (host := "") (Or.inl (hw _ (List.mem_of_getElem? (i := 14) rfl))) Via.refl e9 F_search_r0_0 (g := (mkF m 42 #[.val (.ref r0), .val (.int p1), .val (.int p2), .val (.int (0 : Int32)), .unset] [(.ref r0), (.int (0 : Int32)), (.ref xF)])) rfl rfl (hb hby d9_42)
      refine own_go (fun tg k => st10 tg k) ?_
      show own_Fin _ _ _ _ _ _ _ (T10.setTop (mkF m 45 #[.val (.ref r0), .val (.int p1), .val (.int p2), .val (.int (0 : Int32)), .unset] [(.int se), (.int (0 : Int32)), (.ref xF)]))
      obtain ⟨T11, h11, X11, e11, W11, A_xF_11, st11⟩ := own_stI X10 hx hZ e10 A_xF_0 (j := (0 : Int32)) ⟨by decide, by decide⟩ (g := (mkF m 45 #[.val (.ref r0), .val (.int p1), .val (.int p2), .val (.int (0 : Int32)), .unset] [(.int se), (.int (0 : Int32)), (.ref xF)])) rfl rfl (hb hby d9_45)
      have F_numbers_r0_11 := F_numbers_r0_0.other W11 (Or.inl (own_ne_arf E_r0_0 (hw _ (List.mem_of_getElem? (i := 5) rfl)) A_xF_0))
      have F_elements_r0_11 := F_elements_r0_0.other W11 (Or.inl (own_ne_arf E_r0_0 (hw _ (List.mem_of_getElem? (i := 5) rfl)) A_xF_0))
      have F_foundIn_r0_11 := F_foundIn_r0_0.other W11 (Or.inl (own_ne_arf E_r0_0 (hw _ (List.mem_of_getElem? (i := 5) rfl)) A_xF_0))
      have F_next_r0_11 := F_next_r0_0.other W11 (Or.inl (own_ne_arf E_r0_0 (hw _ (List.mem_of_getElem? (i := 5) rfl)) A_xF_0))
      have F_found_r0_11 := F_found_r0_0.other W11 (Or.inl (own_ne_arf E_r0_0 (hw _ (List.mem_of_getElem? (i := 5) rfl)) A_xF_0))
      have F_bucketShift_r0_11 := F_bucketShift_r0_0.other W11 (Or.inl (own_ne_arf E_r0_0 (hw _ (List.mem_of_getElem? (i := 5) rfl)) A_xF_0))
      have F_bucketStart_r0_11 := F_bucketStart_r0_0.other W11 (Or.inl (own_ne_arf E_r0_0 (hw _ (List.mem_of_getElem? (i := 5) rfl)) A_xF_0))
      have E_r0_11 := E_r0_0.wr W11
      have F_search_r0_11 := F_search_r0_0.other W11 (Or.inl (own_ne_arf E_r0_0 (hw _ (List.mem_of_getElem? (i := 5) rfl)) A_xF_0))
      have F_foundCount_r0_11 := F_foundCount_r0_0.other W11 (Or.inl (own_ne_arf E_r0_0 (hw _ (List.mem_of_getElem? (i := 5) rfl)) A_xF_0))
      have F_firstOnly_r0_11 := F_firstOnly_r0_0.other W11 (Or.inl (own_ne_arf E_r0_0 (hw _ (List.mem_of_getElem? (i := 5) rfl)) A_xF_0))
      have F_forRuns_r0_11 := F_forRuns_r0_0.other W11 (Or.inl (own_ne_arf E_r0_0 (hw _ (List.mem_of_getElem? (i := 5) rfl)) A_xF_0))
      have F_runsLength_r0_11 := F_runsLength_r0_0.other W11 (Or.inl (own_ne_arf E_r0_0 (hw _ (List.mem_of_getElem? (i := 5) rfl)) A_xF_0))
      have A_xN_11 := A_xN_0.other W11 ne_xN_xF
      have A_xX_11 := A_xX_0.other W11 (Ne.symm ne_xF_xX)
      have A_xD_11 := A_xD_0.other W11 (Ne.symm ne_xF_xD)
      have A_xB_11 := A_xB_0.other W11 (Ne.symm ne_xF_xB)
      have K11 := K0.wr W11 (Or.inl (List.mem_of_getElem? (i := 1) rfl))
      have N11 := Fr.snoc X11 N8 ge_xF
      have Z11 : n0 ≤ h11.size := Nat.le_trans Z0 (Keep.of_wr W11).1
      obtain ⟨f11, hf11⟩ : ∃ z, z = (own_set gF (0 : Int32) se) := ⟨_, rfl⟩
      rw [← hf11] at A_xF_11
      refine own_go (fun tg k => st11 tg k) ?_
      show own_Fin _ _ _ _ _ _ _ (T11.setTop (mkF m 46 #[.val (.ref r0), .val (.int p1), .val (.int p2), .val (.int (0 : Int32)), .unset] []))
      refine own_go (fun _ k => XS.aloadN X11.here hx rfl (hb hby d9_46) rfl rfl k) ?_
      obtain ⟨T12, X12, e12, st12⟩ := getF X11 hx hZ hown (host := "") (Or.inl (hw _ (List.mem_of_getElem? (i := 26) rfl))) Via.refl e11 F_found_r0_11 (g := (mkF m 47 #[.val (.ref r0), .val (.int p1), .val (.int p2), .val (.int (0 : Int32)), .unset] [(.ref r0)])) rfl rfl (hb hby d9_47)
      refine own_go (fun tg k => st12 tg k) ?_
      show own_Fin _ _ _ _ _ _ _ (T12.setTop (mkF m 50 #[.val (.ref r0), .val (.int p1), .val (.int p2), .val (.int (0 : Int32)), .unset] [(.ref xD)]))
      refine own_go (fun _ k => XS.aloadN X12.here hx rfl (hb hby d9_50) rfl rfl k) ?_
      refine own_go (fun _ k => XS.dup X12.here hx rfl (hb hby d9_51) rfl rfl k) ?_
      obtain ⟨T13, X13, e13, st13⟩ := getF X12 hx hZ hown (host := "") (Or.inl (hw _ (List.mem_of_getElem? (i := 55) rfl))) Via.refl e12 F_foundCount_r0_11 (g := (mkF m 52 #[.val (.ref r0), .val (.int p1), .val (.int p2), .val (.int (0 : Int32)), .unset] [(.ref r0), (.ref r0), (.ref xD)])) rfl rfl (hb hby d9_52)
      refine own_go (fun tg k => st13 tg k) ?_
      show own_Fin _ _ _ _ _ _ _ (T13.setTop (mkF m 55 #[.val (.ref r0), .val (.int p1), .val (.int p2), .val (.int (0 : Int32)), .unset] [(.int (0 : Int32)), (.ref r0), (.ref xD)]))
      refine own_go (fun _ k => XS.dupX1 X13.here hx rfl (hb hby d9_55) rfl rfl rfl k) ?_
      show own_Fin _ _ _ _ _ _ _ (T13.setTop (mkF m 56 #[.val (.ref r0), .val (.int p1), .val (.int p2), .val (.int (0 : Int32)), .unset] [(.int (0 : Int32)), (.ref r0), (.int (0 : Int32)), (.ref xD)]))
      refine own_go (fun _ k => XS.iconst X13.here hx rfl (hb hby d9_56) k) ?_
      refine own_go (fun _ k => XS.iadd X13.here hx rfl (hb hby d9_57) rfl k) ?_
      show own_Fin _ _ _ _ _ _ _ (T13.setTop (mkF m 58 #[.val (.ref r0), .val (.int p1), .val (.int p2), .val (.int (0 : Int32)), .unset] [(.int (1 : Int32)), (.ref r0), (.int (0 : Int32)), (.ref xD)]))
      obtain ⟨T14, h14, X14, e14, W14, st14⟩ := putF X13 hx hZ hown (host := "") (Or.inl (hw _ (List.mem_of_getElem? (i := 55) rfl))) Via.refl e13 F_foundCount_r0_11 E_r0_11 (Or.inl (hw _ (List.mem_of_getElem? (i := 56) rfl))) (hw _ (List.mem_of_getElem? (i := 5) rfl)) (ty := .int) (by decide) rfl rfl (g := (mkF m 58 #[.val (.ref r0), .val (.int p1), .val (.int p2), .val (.int (0 : Int32)), .unset] [(.int (1 : Int32)), (.ref r0), (.int (0 : Int32)), (.ref xD)])) rfl rfl (hb hby d9_58)
      have F_numbers_r0_14 := F_numbers_r0_11.other W14 (Or.inr (own_sn360 hw))
      have F_elements_r0_14 := F_elements_r0_11.other W14 (Or.inr (own_sn361 hw))
      have F_foundIn_r0_14 := F_foundIn_r0_11.other W14 (Or.inr (own_sn362 hw))
      have F_next_r0_14 := F_next_r0_11.other W14 (Or.inr (own_sn363 hw))
      have F_found_r0_14 := F_found_r0_11.other W14 (Or.inr (own_sn364 hw))
      have F_bucketShift_r0_14 := F_bucketShift_r0_11.other W14 (Or.inr (own_sn365 hw))
      have F_bucketStart_r0_14 := F_bucketStart_r0_11.other W14 (Or.inr (own_sn366 hw))
      have E_r0_14 := E_r0_11.wr W14
      have F_search_r0_14 := F_search_r0_11.other W14 (Or.inr (own_sn367 hw))
      have F_firstOnly_r0_14 := F_firstOnly_r0_11.other W14 (Or.inr (own_sn368 hw))
      have F_forRuns_r0_14 := F_forRuns_r0_11.other W14 (Or.inr (own_sn369 hw))
      have F_runsLength_r0_14 := F_runsLength_r0_11.other W14 (Or.inr (own_sn370 hw))
      have A_xN_14 := A_xN_11.other W14 (Ne.symm (own_ne_arf E_r0_11 (hw _ (List.mem_of_getElem? (i := 5) rfl)) A_xN_11))
      have A_xF_14 := A_xF_11.other W14 (Ne.symm (own_ne_arf E_r0_11 (hw _ (List.mem_of_getElem? (i := 5) rfl)) A_xF_11))
      have A_xX_14 := A_xX_11.other W14 (Ne.symm (own_ne_arf E_r0_11 (hw _ (List.mem_of_getElem? (i := 5) rfl)) A_xX_11))
      have A_xD_14 := A_xD_11.other W14 (Ne.symm (own_ne_arf E_r0_11 (hw _ (List.mem_of_getElem? (i := 5) rfl)) A_xD_11))
      have A_xB_14 := A_xB_11.other W14 (Ne.symm (own_ne_arf E_r0_11 (hw _ (List.mem_of_getElem? (i := 5) rfl)) A_xB_11))
      have K14 := K11.wr W14 (Or.inl (List.mem_of_getElem? (i := 0) rfl))
      have N14 := Fr.snoc X14 N11 ge_r0
      have Z14 : n0 ≤ h14.size := Nat.le_trans Z11 (Keep.of_wr W14).1
      have F_foundCount_r0_14 := F_foundCount_r0_11.same W14
      refine own_go (fun tg k => st14 tg k) ?_
      show own_Fin _ _ _ _ _ _ _ (T14.setTop (mkF m 61 #[.val (.ref r0), .val (.int p1), .val (.int p2), .val (.int (0 : Int32)), .unset] [(.int (0 : Int32)), (.ref xD)]))
      refine own_go (fun _ k => XS.iloadN X14.here hx rfl (hb hby d9_61) rfl k) ?_
      obtain ⟨T15, h15, X15, e15, W15, A_xD_15, st15⟩ := own_stI X14 hx hZ e14 A_xD_14 (j := (0 : Int32)) ⟨by decide, by decide⟩ (g := (mkF m 62 #[.val (.ref r0), .val (.int p1), .val (.int p2), .val (.int (0 : Int32)), .unset] [(.int (0 : Int32)), (.int (0 : Int32)), (.ref xD)])) rfl rfl (hb hby d9_62)
      have F_numbers_r0_15 := F_numbers_r0_14.other W15 (Or.inl (own_ne_arf E_r0_14 (hw _ (List.mem_of_getElem? (i := 5) rfl)) A_xD_14))
      have F_elements_r0_15 := F_elements_r0_14.other W15 (Or.inl (own_ne_arf E_r0_14 (hw _ (List.mem_of_getElem? (i := 5) rfl)) A_xD_14))
      have F_foundIn_r0_15 := F_foundIn_r0_14.other W15 (Or.inl (own_ne_arf E_r0_14 (hw _ (List.mem_of_getElem? (i := 5) rfl)) A_xD_14))
      have F_next_r0_15 := F_next_r0_14.other W15 (Or.inl (own_ne_arf E_r0_14 (hw _ (List.mem_of_getElem? (i := 5) rfl)) A_xD_14))
      have F_found_r0_15 := F_found_r0_14.other W15 (Or.inl (own_ne_arf E_r0_14 (hw _ (List.mem_of_getElem? (i := 5) rfl)) A_xD_14))
      have F_bucketShift_r0_15 := F_bucketShift_r0_14.other W15 (Or.inl (own_ne_arf E_r0_14 (hw _ (List.mem_of_getElem? (i := 5) rfl)) A_xD_14))
      have F_bucketStart_r0_15 := F_bucketStart_r0_14.other W15 (Or.inl (own_ne_arf E_r0_14 (hw _ (List.mem_of_getElem? (i := 5) rfl)) A_xD_14))
      have E_r0_15 := E_r0_14.wr W15
      have F_search_r0_15 := F_search_r0_14.other W15 (Or.inl (own_ne_arf E_r0_14 (hw _ (List.mem_of_getElem? (i := 5) rfl)) A_xD_14))
      have F_foundCount_r0_15 := F_foundCount_r0_14.other W15 (Or.inl (own_ne_arf E_r0_14 (hw _ (List.mem_of_getElem? (i := 5) rfl)) A_xD_14))
      have F_firstOnly_r0_15 := F_firstOnly_r0_14.other W15 (Or.inl (own_ne_arf E_r0_14 (hw _ (List.mem_of_getElem? (i := 5) rfl)) A_xD_14))
      have F_forRuns_r0_15 := F_forRuns_r0_14.other W15 (Or.inl (own_ne_arf E_r0_14 (hw _ (List.mem_of_getElem? (i := 5) rfl)) A_xD_14))
      have F_runsLength_r0_15 := F_runsLength_r0_14.other W15 (Or.inl (own_ne_arf E_r0_14 (hw _ (List.mem_of_getElem? (i := 5) rfl)) A_xD_14))
      have A_xN_15 := A_xN_14.other W15 ne_xN_xD
      have A_xF_15 := A_xF_14.other W15 ne_xF_xD
      have A_xX_15 := A_xX_14.other W15 ne_xX_xD
      have A_xB_15 := A_xB_14.other W15 (Ne.symm ne_xD_xB)
      have K15 := K14.wr W15 (Or.inl (List.mem_of_getElem? (i := 3) rfl))
      have N15 := Fr.snoc X15 N14 ge_xD
      have Z15 : n0 ≤ h15.size := Nat.le_trans Z14 (Keep.of_wr W15).1
      obtain ⟨f15, hf15⟩ : ∃ z, z = (own_set gD (0 : Int32) (0 : Int32)) := ⟨_, rfl⟩
      rw [← hf15] at A_xD_15
      refine own_go (fun tg k => st15 tg k) ?_
      show own_Fin _ _ _ _ _ _ _ (T15.setTop (mkF m 63 #[.val (.ref r0), .val (.int p1), .val (.int p2), .val (.int (0 : Int32)), .unset] []))
      refine own_go (fun _ k => XS.aloadN X15.here hx rfl (hb hby d9_63) rfl rfl k) ?_
      refine own_go (fun _ k => XS.iloadN X15.here hx rfl (hb hby d9_64) rfl k) ?_
      refine own_go (fun _ k => XS.iconst X15.here hx rfl (hb hby d9_65) k) ?_
      refine own_go (fun _ k => XS.iadd X15.here hx rfl (hb hby d9_66) rfl k) ?_
      show own_Fin _ _ _ _ _ _ _ (T15.setTop (mkF m 67 #[.val (.ref r0), .val (.int p1), .val (.int p2), .val (.int (0 : Int32)), .unset] [(.int (1 : Int32)), (.ref r0)]))
      obtain ⟨cq16, q16, q16'⟩ := E_r0_15.cell
      obtain ⟨_, _, ⟨T16, L16, k16, n16⟩, -, X16, ⟨Lc16, hQ16, l16, y16, z16⟩, st16⟩ := X15.privateBack hx (y := (⟨"com/example/reachability/reachability/CandidateList", "open", "(I)I"⟩ : MethodName)) hown (mvT hZ (hw _ (List.mem_of_getElem? (i := 74) rfl))) (mvT hZ (hw _ (List.mem_of_getElem? (i := 75) rfl))) (own_selpriv (z := (⟨"com/example/reachability/reachability/CandidateList", "satisfied", "()Z"⟩ : MethodName)) rfl (mvT (args := #[]) hZ (hw _ (List.mem_of_getElem? (i := 45) rfl))) (Cond.privateMethod_at (mvP hZ (hw _ (List.mem_of_getElem? (i := 76) rfl)) (args := #[]))) (mvT hZ (hw _ (List.mem_of_getElem? (i := 75) rfl))) (by decide)) (Cond.privateMethod_at (mvP hZ (hw _ (List.mem_of_getElem? (i := 76) rfl)) (args := #[]))) (mvT hZ (hw _ (List.mem_of_getElem? (i := 77) rfl))) (by decide) (backOf (W := 0) (rm12f l Z a0 hw [] r0 (1 : Int32) xN gN xF f11 se h15 n0 Z15 F_numbers_r0_15 A_xN_15 F_foundIn_r0_15 A_xF_15 F_search_r0_15 ⟨by decide, fun _ => by rw [hf11, own_setne _ _ _ _ (by decide)]; exact hp.2 1 (by decide)⟩) hZ (hw _ (List.mem_of_getElem? (i := 77) rfl)) (hw _ (List.mem_of_getElem? (i := 6) rfl)) (by decide) (by decide)) (g := (mkF m 67 #[.val (.ref r0), .val (.int p1), .val (.int p2), .val (.int (0 : Int32)), .unset] [(.int (1 : Int32)), (.ref r0)])) rfl (by rw [hml]; rfl) (Steps.refl _) (a := r0) (by rw [e15]; exact q16) q16' (argsL := [(.int (1 : Int32))]) (rest := []) (lenOf own_pd428 rfl) rfl (by show 2 * 0 + _ ≤ _; exact Nat.le_of_eq rfl) (hb hby d9_67) (fun _ _ => ⟨rfl, e15, (by decide : 0 + 0 ≤ _), (by decide : 0 + 0 ≤ _)⟩)
      dsimp only [Pt.U, Pt.locs, Pt.cells, Pt.slots] at X16 l16 y16 z16 st16 hQ16
      replace y16 : 0 = k16 := y16.symm
      replace z16 : 0 = n16 := z16.symm
      subst y16 z16
      obtain ⟨rfl, N16q, e16⟩ := hQ16
      have N16 : Fr n0 L16 := by rw [l16]; exact Fr.app N15 N16q
      refine own_go (fun tg k => st16.trans k) ?_
      show own_Fin _ _ _ _ _ _ _ (T16.setTop (mkF m 70 #[.val (.ref r0), .val (.int p1), .val (.int p2), .val (.int (0 : Int32)), .unset] [(.int (1 : Int32))]))
      refine own_go (fun _ k => XS.istore X16.here hx rfl (hb hby d9_70) rfl (l' := #[.val (.ref r0), .val (.int p1), .val (.int p2), .val (.int (0 : Int32)), .val (.int (1 : Int32))]) rfl k) ?_
      show own_Fin _ _ _ _ _ _ _ (T16.setTop (mkF m 72 #[.val (.ref r0), .val (.int p1), .val (.int p2), .val (.int (0 : Int32)), .val (.int (1 : Int32))] []))
      refine own_go (fun _ k => XS.aloadN X16.here hx rfl (hb hby d9_72) rfl rfl k) ?_
      obtain ⟨T17, X17, e17, st17⟩ := getF X16 hx hZ hown (host := "") (Or.inl (hw _ (List.mem_of_getElem? (i := 24) rfl))) Via.refl e16 F_next_r0_15 (g := (mkF m 73 #[.val (.ref r0), .val (.int p1), .val (.int p2), .val (.int (0 : Int32)), .val (.int (1 : Int32))] [(.ref r0)])) rfl rfl (hb hby d9_73)
      refine own_go (fun tg k => st17 tg k) ?_
      show own_Fin _ _ _ _ _ _ _ (T17.setTop (mkF m 76 #[.val (.ref r0), .val (.int p1), .val (.int p2), .val (.int (0 : Int32)), .val (.int (1 : Int32))] [(.ref xX)]))
      refine own_go (fun _ k => XS.iloadN X17.here hx rfl (hb hby d9_76) rfl k) ?_
      refine own_go (fun _ k => XS.iload X17.here hx rfl (hb hby d9_77) rfl k) ?_
      obtain ⟨T18, h18, X18, e18, W18, A_xX_18, st18⟩ := own_stI X17 hx hZ e17 A_xX_15 (j := (0 : Int32)) ⟨by decide, by decide⟩ (g := (mkF m 79 #[.val (.ref r0), .val (.int p1), .val (.int p2), .val (.int (0 : Int32)), .val (.int (1 : Int32))] [(.int (1 : Int32)), (.int (0 : Int32)), (.ref xX)])) rfl rfl (hb hby d9_79)
      have F_numbers_r0_18 := F_numbers_r0_15.other W18 (Or.inl (own_ne_arf E_r0_15 (hw _ (List.mem_of_getElem? (i := 5) rfl)) A_xX_15))
      have F_elements_r0_18 := F_elements_r0_15.other W18 (Or.inl (own_ne_arf E_r0_15 (hw _ (List.mem_of_getElem? (i := 5) rfl)) A_xX_15))
      have F_foundIn_r0_18 := F_foundIn_r0_15.other W18 (Or.inl (own_ne_arf E_r0_15 (hw _ (List.mem_of_getElem? (i := 5) rfl)) A_xX_15))
      have F_next_r0_18 := F_next_r0_15.other W18 (Or.inl (own_ne_arf E_r0_15 (hw _ (List.mem_of_getElem? (i := 5) rfl)) A_xX_15))
      have F_found_r0_18 := F_found_r0_15.other W18 (Or.inl (own_ne_arf E_r0_15 (hw _ (List.mem_of_getElem? (i := 5) rfl)) A_xX_15))
      have F_bucketShift_r0_18 := F_bucketShift_r0_15.other W18 (Or.inl (own_ne_arf E_r0_15 (hw _ (List.mem_of_getElem? (i := 5) rfl)) A_xX_15))
      have F_bucketStart_r0_18 := F_bucketStart_r0_15.other W18 (Or.inl (own_ne_arf E_r0_15 (hw _ (List.mem_of_getElem? (i := 5) rfl)) A_xX_15))
      have E_r0_18 := E_r0_15.wr W18
      have F_search_r0_18 := F_search_r0_15.other W18 (Or.inl (own_ne_arf E_r0_15 (hw _ (List.mem_of_getElem? (i := 5) rfl)) A_xX_15))
      have F_foundCount_r0_18 := F_foundCount_r0_15.other W18 (Or.inl (own_ne_arf E_r0_15 (hw _ (List.mem_of_getElem? (i := 5) rfl)) A_xX_15))
      have F_firstOnly_r0_18 := F_firstOnly_r0_15.other W18 (Or.inl (own_ne_arf E_r0_15 (hw _ (List.mem_of_getElem? (i := 5) rfl)) A_xX_15))
      have F_forRuns_r0_18 := F_forRuns_r0_15.other W18 (Or.inl (own_ne_arf E_r0_15 (hw _ (List.mem_of_getElem? (i := 5) rfl)) A_xX_15))
      have F_runsLength_r0_18 := F_runsLength_r0_15.other W18 (Or.inl (own_ne_arf E_r0_15 (hw _ (List.mem_of_getElem? (i := 5) rfl)) A_xX_15))
      have A_xN_18 := A_xN_15.other W18 ne_xN_xX
      have A_xF_18 := A_xF_15.other W18 ne_xF_xX
      have A_xD_18 := A_xD_15.other W18 (Ne.symm ne_xX_xD)
      have A_xB_18 := A_xB_15.other W18 (Ne.symm ne_xX_xB)
      have K18 := K15.wr W18 (Or.inl (List.mem_of_getElem? (i := 2) rfl))
      have N18 := Fr.snoc X18 N16 ge_xX
      have Z18 : n0 ≤ h18.size := Nat.le_trans Z15 (Keep.of_wr W18).1
      obtain ⟨f18, hf18⟩ : ∃ z, z = (own_set gX (0 : Int32) (1 : Int32)) := ⟨_, rfl⟩
      rw [← hf18] at A_xX_18
      refine own_go (fun tg k => st18 tg k) ?_
      show own_Fin _ _ _ _ _ _ _ (T18.setTop (mkF m 80 #[.val (.ref r0), .val (.int p1), .val (.int p2), .val (.int (0 : Int32)), .val (.int (1 : Int32))] []))
      refine own_go (fun _ k => XS.iload X18.here hx rfl (hb hby d9_80) rfl k) ?_
      refine own_go (fun _ k => XS.istoreN X18.here hx rfl (hb hby d9_82) rfl (l' := #[.val (.ref r0), .val (.int p1), .val (.int p2), .val (.int (1 : Int32)), .val (.int (1 : Int32))]) rfl k) ?_
      show own_Fin _ _ _ _ _ _ _ (T18.setTop (mkF m 83 #[.val (.ref r0), .val (.int p1), .val (.int p2), .val (.int (1 : Int32)), .val (.int (1 : Int32))] []))
      refine own_go (fun _ k => XS.goto X18.here hx rfl (pc0 := 83) (pc' := 10) rfl (hb hby d9_83) (by decide) (by decide) k) ?_
      show own_Fin _ _ _ _ _ _ _ (T18.setTop (mkF m 10 #[.val (.ref r0), .val (.int p1), .val (.int p2), .val (.int (1 : Int32)), .val (.int (1 : Int32))] []))
      refine own_go (fun _ k => XS.iloadN X18.here hx rfl (hb hby d9_10) rfl k) ?_
      refine own_go (fun _ k => XS.aloadN X18.here hx rfl (hb hby d9_11) rfl rfl k) ?_
      obtain ⟨T19, X19, e19, st19⟩ := getF X18 hx hZ hown (host := "") (Or.inl (hw _ (List.mem_of_getElem? (i := 18) rfl))) Via.refl e18 F_numbers_r0_18 (g := (mkF m 12 #[.val (.ref r0), .val (.int p1), .val (.int p2), .val (.int (1 : Int32)), .val (.int (1 : Int32))] [(.ref r0), (.int (1 : Int32))])) rfl rfl (hb hby d9_12)
      refine own_go (fun tg k => st19 tg k) ?_
      show own_Fin _ _ _ _ _ _ _ (T19.setTop (mkF m 15 #[.val (.ref r0), .val (.int p1), .val (.int p2), .val (.int (1 : Int32)), .val (.int (1 : Int32))] [(.ref xN), (.int (1 : Int32))]))
      refine own_go (fun tg k => own_alen X19 hx hZ e19 A_xN_18 (g := (mkF m 15 #[.val (.ref r0), .val (.int p1), .val (.int p2), .val (.int (1 : Int32)), .val (.int (1 : Int32))] [(.ref xN), (.int (1 : Int32))])) rfl rfl (hb hby d9_15) tg k) ?_
      show own_Fin _ _ _ _ _ _ _ (T19.setTop (mkF m 16 #[.val (.ref r0), .val (.int p1), .val (.int p2), .val (.int (1 : Int32)), .val (.int (1 : Int32))] [(.int (3 : Int32)), (.int (1 : Int32))]))
      refine own_go (fun _ k => XS.icmpNo X19.here hx rfl (hb hby d9_16) rfl (tlt (by decide)).2.1 k) ?_
      show own_Fin _ _ _ _ _ _ _ (T19.setTop (mkF m 19 #[.val (.ref r0), .val (.int p1), .val (.int p2), .val (.int (1 : Int32)), .val (.int (1 : Int32))] []))
      refine own_go (fun _ k => XS.aloadN X19.here hx rfl (hb hby d9_19) rfl rfl k) ?_
      obtain ⟨T20, X20, e20, st20⟩ := getF X19 hx hZ hown (host := "") (Or.inl (hw _ (List.mem_of_getElem? (i := 18) rfl))) Via.refl e19 F_numbers_r0_18 (g := (mkF m 20 #[.val (.ref r0), .val (.int p1), .val (.int p2), .val (.int (1 : Int32)), .val (.int (1 : Int32))] [(.ref r0)])) rfl rfl (hb hby d9_20)
      refine own_go (fun tg k => st20 tg k) ?_
      show own_Fin _ _ _ _ _ _ _ (T20.setTop (mkF m 23 #[.val (.ref r0), .val (.int p1), .val (.int p2), .val (.int (1 : Int32)), .val (.int (1 : Int32))] [(.ref xN)]))
      refine own_go (fun _ k => XS.iloadN X20.here hx rfl (hb hby d9_23) rfl k) ?_
      refine own_go (fun tg k => own_iaload X20 hx hZ e20 A_xN_18 (j := (1 : Int32)) ⟨by decide, by decide⟩ (x := (gN 1)) rfl (g := (mkF m 24 #[.val (.ref r0), .val (.int p1), .val (.int p2), .val (.int (1 : Int32)), .val (.int (1 : Int32))] [(.int (1 : Int32)), (.ref xN)])) rfl rfl (hb hby d9_24) tg k) ?_
      show own_Fin _ _ _ _ _ _ _ (T20.setTop (mkF m 25 #[.val (.ref r0), .val (.int p1), .val (.int p2), .val (.int (1 : Int32)), .val (.int (1 : Int32))] [(.int (gN 1))]))
      refine own_go (fun _ k => XS.iloadN X20.here hx rfl (hb hby d9_25) rfl k) ?_
      show own_Fin _ _ _ _ _ _ _ (T20.setTop (mkF m 26 #[.val (.ref r0), .val (.int p1), .val (.int p2), .val (.int (1 : Int32)), .val (.int (1 : Int32))] [(.int p2), (.int (gN 1))]))
      by_cases hc21 : p2 < (gN 1)
      · refine own_go (fun _ k => XS.icmpYes X20.here hx rfl (pc0 := 26) (pc' := 86) rfl (hb hby d9_26) rfl (tlt hc21).2.2.1 (by decide) (by decide) k) ?_
        show own_Fin _ _ _ _ _ _ _ (T20.setTop (mkF m 86 #[.val (.ref r0), .val (.int p1), .val (.int p2), .val (.int (1 : Int32)), .val (.int (1 : Int32))] []))
        refine own_go (fun _ k => XS.aloadN X20.here hx rfl (hb hby d9_86) rfl rfl k) ?_
        refine own_go (fun _ k => XS.iloadN X20.here hx rfl (hb hby d9_87) rfl k) ?_
        obtain ⟨cq22, q22, q22'⟩ := E_r0_18.cell
        obtain ⟨_, _, ⟨T22, L22, k22, n22⟩, -, X22, ⟨Lc22, hQ22, l22, y22, z22⟩, st22⟩ := X20.privateBack hx (y := (⟨"com/example/reachability/reachability/CandidateList", "numberOf", "(I)I"⟩ : MethodName)) hown (mvT hZ (hw _ (List.mem_of_getElem? (i := 78) rfl))) (mvT hZ (hw _ (List.mem_of_getElem? (i := 79) rfl))) (own_selpriv (z := (⟨"com/example/reachability/reachability/CandidateList", "satisfied", "()Z"⟩ : MethodName)) rfl (mvT (args := #[]) hZ (hw _ (List.mem_of_getElem? (i := 45) rfl))) (Cond.privateMethod_at (mvP hZ (hw _ (List.mem_of_getElem? (i := 80) rfl)) (args := #[]))) (mvT hZ (hw _ (List.mem_of_getElem? (i := 79) rfl))) (by decide)) (Cond.privateMethod_at (mvP hZ (hw _ (List.mem_of_getElem? (i := 80) rfl)) (args := #[]))) (mvT hZ (hw _ (List.mem_of_getElem? (i := 81) rfl))) (by decide) (backOf (W := 0) (rm13 l Z a0 hw [] r0 (1 : Int32) xN gN h18 n0 Z18 F_numbers_r0_18 A_xN_18 (by decide)) hZ (hw _ (List.mem_of_getElem? (i := 81) rfl)) (hw _ (List.mem_of_getElem? (i := 6) rfl)) (by decide) (by decide)) (g := (mkF m 88 #[.val (.ref r0), .val (.int p1), .val (.int p2), .val (.int (1 : Int32)), .val (.int (1 : Int32))] [(.int (1 : Int32)), (.ref r0)])) rfl (by rw [hml]; rfl) (Steps.refl _) (a := r0) (by rw [e20]; exact q22) q22' (argsL := [(.int (1 : Int32))]) (rest := []) (lenOf own_pd428 rfl) rfl (by show 2 * 0 + _ ≤ _; exact Nat.le_of_eq rfl) (hb hby d9_88) (fun _ _ => ⟨rfl, e20, (by decide : 0 + 0 ≤ _), (by decide : 0 + 0 ≤ _)⟩)
        dsimp only [Pt.U, Pt.locs, Pt.cells, Pt.slots] at X22 l22 y22 z22 st22 hQ22
        replace y22 : 0 = k22 := y22.symm
        replace z22 : 0 = n22 := z22.symm
        subst y22 z22
        obtain ⟨rfl, N22q, e22⟩ := hQ22
        have N22 : Fr n0 L22 := by rw [l22]; exact Fr.app N18 N22q
        refine own_go (fun tg k => st22.trans k) ?_
        show own_Fin _ _ _ _ _ _ _ (T22.setTop (mkF m 91 #[.val (.ref r0), .val (.int p1), .val (.int p2), .val (.int (1 : Int32)), .val (.int (1 : Int32))] [(.int (own_f13 (1 : Int32) gN))]))
        refine own_ret X22 hx hlk Bd.returns rfl (Or.inl ⟨rfl, by simp, _, rfl⟩) (hb hby d9_91) (Nat.le_of_ble_eq_true rfl) (Nat.le_of_ble_eq_true rfl) ?_
        rw [e22]
        refine ⟨(own_lf_own_f9f_6 (p1 := p1) (p2 := p2) (sh := sh) (se := se) (fo := fo) (fr := fr) (rl := rl) (gN := gN) (gF := gF) (gX := gX) (gD := gD) (nB := nB) (gB := gB) hs3 hc6 hc21), N22, K18, ?_, ?_, ?_, ?_, ?_, ?_, ?_, E_r0_18, ?_, (by rw [← (own_lf_own_f9f_7 (p1 := p1) (p2 := p2) (sh := sh) (se := se) (fo := fo) (fr := fr) (rl := rl) (gN := gN) (gF := gF) (gX := gX) (gD := gD) (nB := nB) (gB := gB) hs3 hc6 hc21)]; exact F_foundCount_r0_18), ?_, ?_, ?_, (by rw [← (own_lf_own_f9f_8 (p1 := p1) (p2 := p2) (sh := sh) (se := se) (fo := fo) (fr := fr) (rl := rl) (gN := gN) (gF := gF) (gX := gX) (gD := gD) (nB := nB) (gB := gB) hf11 hs3 hc6 hc21)]; exact A_xF_18), (by rw [← (own_lf_own_f9f_9 (p1 := p1) (p2 := p2) (sh := sh) (se := se) (fo := fo) (fr := fr) (rl := rl) (gN := gN) (gF := gF) (gX := gX) (gD := gD) (nB := nB) (gB := gB) hf18 hs3 hc6 hc21)]; exact A_xX_18), (by rw [← (own_lf_own_f9f_10 (p1 := p1) (p2 := p2) (sh := sh) (se := se) (fo := fo) (fr := fr) (rl := rl) (gN := gN) (gF := gF) (gX := gX) (gD := gD) (nB := nB) (gB := gB) hf15 hs3 hc6 hc21)]; exact A_xD_18)⟩
        all_goals try subst hf18
        all_goals try subst hf15
        all_goals try subst hf11
        · first | (exact F_numbers_r0_18) | (simp only [if_pos hs3, if_neg hc6, if_pos hc21]; exact F_numbers_r0_18)
        · first | (exact F_elements_r0_18) | (simp only [if_pos hs3, if_neg hc6, if_pos hc21]; exact F_elements_r0_18)
        · first | (exact F_foundIn_r0_18) | (simp only [if_pos hs3, if_neg hc6, if_pos hc21]; exact F_foundIn_r0_18)
        · first | (exact F_next_r0_18) | (simp only [if_pos hs3, if_neg hc6, if_pos hc21]; exact F_next_r0_18)
        · first | (exact F_found_r0_18) | (simp only [if_pos hs3, if_neg hc6, if_pos hc21]; exact F_found_r0_18)
        · first | (exact F_bucketShift_r0_18) | (simp only [if_pos hs3, if_neg hc6, if_pos hc21]; exact F_bucketShift_r0_18)
        · first | (exact F_bucketStart_r0_18) | (simp only [if_pos hs3, if_neg hc6, if_pos hc21]; exact F_bucketStart_r0_18)
        · first | (exact F_search_r0_18) | (simp only [if_pos hs3, if_neg hc6, if_pos hc21]; exact F_search_r0_18)
        · first | (exact F_firstOnly_r0_18) | (simp only [if_pos hs3, if_neg hc6, if_pos hc21]; exact F_firstOnly_r0_18)
        · first | (exact F_forRuns_r0_18) | (simp only [if_pos hs3, if_neg hc6, if_pos hc21]; exact F_forRuns_r0_18)
        · first | (exact F_runsLength_r0_18) | (simp only [if_pos hs3, if_neg hc6, if_pos hc21]; exact F_runsLength_r0_18)
      · refine own_go (fun _ k => XS.icmpNo X20.here hx rfl (hb hby d9_26) rfl (flt hc21).2.2.1 k) ?_
        show own_Fin _ _ _ _ _ _ _ (T20.setTop (mkF m 29 #[.val (.ref r0), .val (.int p1), .val (.int p2), .val (.int (1 : Int32)), .val (.int (1 : Int32))] []))
        refine own_go (fun _ k => XS.aloadN X20.here hx rfl (hb hby d9_29) rfl rfl k) ?_
        obtain ⟨cq23, kq23, q23a, q23b, q23c⟩ := isOf hZ e20 E_r0_18
        obtain ⟨_, _, ⟨T23, L23, k23, n23⟩, -, X23, ⟨Lc23, hQ23, l23, y23, z23⟩, st23⟩ := X20.virtualBack hx (y := (⟨"com/example/reachability/reachability/CandidateList", "satisfied", "()Z"⟩ : MethodName)) (z := (⟨"com/example/reachability/reachability/CandidateList", "satisfied", "()Z"⟩ : MethodName)) hown (mvT hZ (hw _ (List.mem_of_getElem? (i := 82) rfl))) (mvT hZ (hw _ (List.mem_of_getElem? (i := 43) rfl))) (notFace_of_selects (args := #[]) (mvT hZ (hw _ (List.mem_of_getElem? (i := 45) rfl)))) (mvT hZ (hw _ (List.mem_of_getElem? (i := 45) rfl))) (mvT hZ (hw _ (List.mem_of_getElem? (i := 44) rfl))) (by decide) (backOf (W := 0) (rm7 l Z a0 hw [] r0 fo (1 : Int32) h18 n0 Z18 F_firstOnly_r0_18 F_foundCount_r0_18) hZ (hw _ (List.mem_of_getElem? (i := 46) rfl)) (hw _ (List.mem_of_getElem? (i := 6) rfl)) (by decide) (by decide)) q23a q23c (g := (mkF m 30 #[.val (.ref r0), .val (.int p1), .val (.int p2), .val (.int (1 : Int32)), .val (.int (1 : Int32))] [(.ref r0)])) rfl (by rw [hml]; rfl) (Steps.refl _) (argsL := []) (rest := []) (lenOf own_pd429 rfl) rfl (by show 2 * 0 + _ ≤ _; exact Nat.le_of_eq rfl) (hb hby d9_30) (fun _ _ => ⟨rfl, e20, (by decide : 0 + 0 ≤ _), (by decide : 0 + 0 ≤ _)⟩)
        dsimp only [Pt.U, Pt.locs, Pt.cells, Pt.slots] at X23 l23 y23 z23 st23 hQ23
        replace y23 : 0 = k23 := y23.symm
        replace z23 : 0 = n23 := z23.symm
        subst y23 z23
        obtain ⟨rfl, N23q, e23⟩ := hQ23
        have N23 : Fr n0 L23 := by rw [l23]; exact Fr.app N18 N23q
        refine own_go (fun tg k => st23.trans k) ?_
        show own_Fin _ _ _ _ _ _ _ (T23.setTop (mkF m 33 #[.val (.ref r0), .val (.int p1), .val (.int p2), .val (.int (1 : Int32)), .val (.int (1 : Int32))] [(.int (own_f7 fo (1 : Int32)))]))
        by_cases hc24 : (own_f7 fo (1 : Int32)) = (0 : Int32)
        · refine own_go (fun _ k => XS.ifNo X23.here hx rfl (hb hby d9_33) rfl ((if0 _ _).trans (teq hc24).2) k) ?_
          show own_Fin _ _ _ _ _ _ _ (T23.setTop (mkF m 36 #[.val (.ref r0), .val (.int p1), .val (.int p2), .val (.int (1 : Int32)), .val (.int (1 : Int32))] []))
          refine own_go (fun _ k => XS.aloadN X23.here hx rfl (hb hby d9_36) rfl rfl k) ?_
          obtain ⟨T25, X25, e25, st25⟩ := getF X23 hx hZ hown (host := "") (Or.inl (hw _ (List.mem_of_getElem? (i := 22) rfl))) Via.refl e23 F_foundIn_r0_18 (g := (mkF m 37 #[.val (.ref r0), .val (.int p1), .val (.int p2), .val (.int (1 : Int32)), .val (.int (1 : Int32))] [(.ref r0)])) rfl rfl (hb hby d9_37)
          refine own_go (fun tg k => st25 tg k) ?_
          show own_Fin _ _ _ _ _ _ _ (T25.setTop (mkF m 40 #[.val (.ref r0), .val (.int p1), .val (.int p2), .val (.int (1 : Int32)), .val (.int (1 : Int32))] [(.ref xF)]))
          refine own_go (fun _ k => XS.iloadN X25.here hx rfl (hb hby d9_40) rfl k) ?_
          refine own_go (fun _ k => XS.aloadN X25.here hx rfl (hb hby d9_41) rfl rfl k) ?_
          obtain ⟨T26, X26, e26, st26⟩ := getF X25 hx hZ hown (host := "") (Or.inl (hw _ (List.mem_of_getElem? (i := 14) rfl))) Via.refl e25 F_search_r0_18 (g := (mkF m 42 #[.val (.ref r0), .val (.int p1), .val (.int p2), .val (.int (1 : Int32)), .val (.int (1 : Int32))] [(.ref r0), (.int (1 : Int32)), (.ref xF)])) rfl rfl (hb hby d9_42)
          refine own_go (fun tg k => st26 tg k) ?_
          show own_Fin _ _ _ _ _ _ _ (T26.setTop (mkF m 45 #[.val (.ref r0), .val (.int p1), .val (.int p2), .val (.int (1 : Int32)), .val (.int (1 : Int32))] [(.int se), (.int (1 : Int32)), (.ref xF)]))
          obtain ⟨T27, h27, X27, e27, W27, A_xF_27, st27⟩ := own_stI X26 hx hZ e26 A_xF_18 (j := (1 : Int32)) ⟨by decide, by decide⟩ (g := (mkF m 45 #[.val (.ref r0), .val (.int p1), .val (.int p2), .val (.int (1 : Int32)), .val (.int (1 : Int32))] [(.int se), (.int (1 : Int32)), (.ref xF)])) rfl rfl (hb hby d9_45)
          have F_numbers_r0_27 := F_numbers_r0_18.other W27 (Or.inl (own_ne_arf E_r0_18 (hw _ (List.mem_of_getElem? (i := 5) rfl)) A_xF_18))
          have F_elements_r0_27 := F_elements_r0_18.other W27 (Or.inl (own_ne_arf E_r0_18 (hw _ (List.mem_of_getElem? (i := 5) rfl)) A_xF_18))
          have F_foundIn_r0_27 := F_foundIn_r0_18.other W27 (Or.inl (own_ne_arf E_r0_18 (hw _ (List.mem_of_getElem? (i := 5) rfl)) A_xF_18))
          have F_next_r0_27 := F_next_r0_18.other W27 (Or.inl (own_ne_arf E_r0_18 (hw _ (List.mem_of_getElem? (i := 5) rfl)) A_xF_18))
          have F_found_r0_27 := F_found_r0_18.other W27 (Or.inl (own_ne_arf E_r0_18 (hw _ (List.mem_of_getElem? (i := 5) rfl)) A_xF_18))
          have F_bucketShift_r0_27 := F_bucketShift_r0_18.other W27 (Or.inl (own_ne_arf E_r0_18 (hw _ (List.mem_of_getElem? (i := 5) rfl)) A_xF_18))
          have F_bucketStart_r0_27 := F_bucketStart_r0_18.other W27 (Or.inl (own_ne_arf E_r0_18 (hw _ (List.mem_of_getElem? (i := 5) rfl)) A_xF_18))
          have E_r0_27 := E_r0_18.wr W27
          have F_search_r0_27 := F_search_r0_18.other W27 (Or.inl (own_ne_arf E_r0_18 (hw _ (List.mem_of_getElem? (i := 5) rfl)) A_xF_18))
          have F_foundCount_r0_27 := F_foundCount_r0_18.other W27 (Or.inl (own_ne_arf E_r0_18 (hw _ (List.mem_of_getElem? (i := 5) rfl)) A_xF_18))
          have F_firstOnly_r0_27 := F_firstOnly_r0_18.other W27 (Or.inl (own_ne_arf E_r0_18 (hw _ (List.mem_of_getElem? (i := 5) rfl)) A_xF_18))
          have F_forRuns_r0_27 := F_forRuns_r0_18.other W27 (Or.inl (own_ne_arf E_r0_18 (hw _ (List.mem_of_getElem? (i := 5) rfl)) A_xF_18))
          have F_runsLength_r0_27 := F_runsLength_r0_18.other W27 (Or.inl (own_ne_arf E_r0_18 (hw _ (List.mem_of_getElem? (i := 5) rfl)) A_xF_18))
          have A_xN_27 := A_xN_18.other W27 ne_xN_xF
          have A_xX_27 := A_xX_18.other W27 (Ne.symm ne_xF_xX)
          have A_xD_27 := A_xD_18.other W27 (Ne.symm ne_xF_xD)
          have A_xB_27 := A_xB_18.other W27 (Ne.symm ne_xF_xB)
          have K27 := K18.wr W27 (Or.inl (List.mem_of_getElem? (i := 1) rfl))
          have N27 := Fr.snoc X27 N23 ge_xF
          have Z27 : n0 ≤ h27.size := Nat.le_trans Z18 (Keep.of_wr W27).1
          obtain ⟨f27, hf27⟩ : ∃ z, z = (own_set f11 (1 : Int32) se) := ⟨_, rfl⟩
          rw [← hf27] at A_xF_27
          refine own_go (fun tg k => st27 tg k) ?_
          show own_Fin _ _ _ _ _ _ _ (T27.setTop (mkF m 46 #[.val (.ref r0), .val (.int p1), .val (.int p2), .val (.int (1 : Int32)), .val (.int (1 : Int32))] []))
          refine own_go (fun _ k => XS.aloadN X27.here hx rfl (hb hby d9_46) rfl rfl k) ?_
          obtain ⟨T28, X28, e28, st28⟩ := getF X27 hx hZ hown (host := "") (Or.inl (hw _ (List.mem_of_getElem? (i := 26) rfl))) Via.refl e27 F_found_r0_27 (g := (mkF m 47 #[.val (.ref r0), .val (.int p1), .val (.int p2), .val (.int (1 : Int32)), .val (.int (1 : Int32))] [(.ref r0)])) rfl rfl (hb hby d9_47)
          refine own_go (fun tg k => st28 tg k) ?_
          show own_Fin _ _ _ _ _ _ _ (T28.setTop (mkF m 50 #[.val (.ref r0), .val (.int p1), .val (.int p2), .val (.int (1 : Int32)), .val (.int (1 : Int32))] [(.ref xD)]))
          refine own_go (fun _ k => XS.aloadN X28.here hx rfl (hb hby d9_50) rfl rfl k) ?_
          refine own_go (fun _ k => XS.dup X28.here hx rfl (hb hby d9_51) rfl rfl k) ?_
          obtain ⟨T29, X29, e29, st29⟩ := getF X28 hx hZ hown (host := "") (Or.inl (hw _ (List.mem_of_getElem? (i := 55) rfl))) Via.refl e28 F_foundCount_r0_27 (g := (mkF m 52 #[.val (.ref r0), .val (.int p1), .val (.int p2), .val (.int (1 : Int32)), .val (.int (1 : Int32))] [(.ref r0), (.ref r0), (.ref xD)])) rfl rfl (hb hby d9_52)
          refine own_go (fun tg k => st29 tg k) ?_
          show own_Fin _ _ _ _ _ _ _ (T29.setTop (mkF m 55 #[.val (.ref r0), .val (.int p1), .val (.int p2), .val (.int (1 : Int32)), .val (.int (1 : Int32))] [(.int (1 : Int32)), (.ref r0), (.ref xD)]))
          refine own_go (fun _ k => XS.dupX1 X29.here hx rfl (hb hby d9_55) rfl rfl rfl k) ?_
          show own_Fin _ _ _ _ _ _ _ (T29.setTop (mkF m 56 #[.val (.ref r0), .val (.int p1), .val (.int p2), .val (.int (1 : Int32)), .val (.int (1 : Int32))] [(.int (1 : Int32)), (.ref r0), (.int (1 : Int32)), (.ref xD)]))
          refine own_go (fun _ k => XS.iconst X29.here hx rfl (hb hby d9_56) k) ?_
          refine own_go (fun _ k => XS.iadd X29.here hx rfl (hb hby d9_57) rfl k) ?_
          show own_Fin _ _ _ _ _ _ _ (T29.setTop (mkF m 58 #[.val (.ref r0), .val (.int p1), .val (.int p2), .val (.int (1 : Int32)), .val (.int (1 : Int32))] [(.int (2 : Int32)), (.ref r0), (.int (1 : Int32)), (.ref xD)]))
          obtain ⟨T30, h30, X30, e30, W30, st30⟩ := putF X29 hx hZ hown (host := "") (Or.inl (hw _ (List.mem_of_getElem? (i := 55) rfl))) Via.refl e29 F_foundCount_r0_27 E_r0_27 (Or.inl (hw _ (List.mem_of_getElem? (i := 56) rfl))) (hw _ (List.mem_of_getElem? (i := 5) rfl)) (ty := .int) (by decide) rfl rfl (g := (mkF m 58 #[.val (.ref r0), .val (.int p1), .val (.int p2), .val (.int (1 : Int32)), .val (.int (1 : Int32))] [(.int (2 : Int32)), (.ref r0), (.int (1 : Int32)), (.ref xD)])) rfl rfl (hb hby d9_58)
          have F_numbers_r0_30 := F_numbers_r0_27.other W30 (Or.inr (own_sn360 hw))
          have F_elements_r0_30 := F_elements_r0_27.other W30 (Or.inr (own_sn361 hw))
          have F_foundIn_r0_30 := F_foundIn_r0_27.other W30 (Or.inr (own_sn362 hw))
          have F_next_r0_30 := F_next_r0_27.other W30 (Or.inr (own_sn363 hw))
          have F_found_r0_30 := F_found_r0_27.other W30 (Or.inr (own_sn364 hw))
          have F_bucketShift_r0_30 := F_bucketShift_r0_27.other W30 (Or.inr (own_sn365 hw))
          have F_bucketStart_r0_30 := F_bucketStart_r0_27.other W30 (Or.inr (own_sn366 hw))
          have E_r0_30 := E_r0_27.wr W30
          have F_search_r0_30 := F_search_r0_27.other W30 (Or.inr (own_sn367 hw))
          have F_firstOnly_r0_30 := F_firstOnly_r0_27.other W30 (Or.inr (own_sn368 hw))
          have F_forRuns_r0_30 := F_forRuns_r0_27.other W30 (Or.inr (own_sn369 hw))
          have F_runsLength_r0_30 := F_runsLength_r0_27.other W30 (Or.inr (own_sn370 hw))
          have A_xN_30 := A_xN_27.other W30 (Ne.symm (own_ne_arf E_r0_27 (hw _ (List.mem_of_getElem? (i := 5) rfl)) A_xN_27))
          have A_xF_30 := A_xF_27.other W30 (Ne.symm (own_ne_arf E_r0_27 (hw _ (List.mem_of_getElem? (i := 5) rfl)) A_xF_27))
          have A_xX_30 := A_xX_27.other W30 (Ne.symm (own_ne_arf E_r0_27 (hw _ (List.mem_of_getElem? (i := 5) rfl)) A_xX_27))
          have A_xD_30 := A_xD_27.other W30 (Ne.symm (own_ne_arf E_r0_27 (hw _ (List.mem_of_getElem? (i := 5) rfl)) A_xD_27))
          have A_xB_30 := A_xB_27.other W30 (Ne.symm (own_ne_arf E_r0_27 (hw _ (List.mem_of_getElem? (i := 5) rfl)) A_xB_27))
          have K30 := K27.wr W30 (Or.inl (List.mem_of_getElem? (i := 0) rfl))
          have N30 := Fr.snoc X30 N27 ge_r0
          have Z30 : n0 ≤ h30.size := Nat.le_trans Z27 (Keep.of_wr W30).1
          have F_foundCount_r0_30 := F_foundCount_r0_27.same W30
          refine own_go (fun tg k => st30 tg k) ?_
          show own_Fin _ _ _ _ _ _ _ (T30.setTop (mkF m 61 #[.val (.ref r0), .val (.int p1), .val (.int p2), .val (.int (1 : Int32)), .val (.int (1 : Int32))] [(.int (1 : Int32)), (.ref xD)]))
          refine own_go (fun _ k => XS.iloadN X30.here hx rfl (hb hby d9_61) rfl k) ?_
          obtain ⟨T31, h31, X31, e31, W31, A_xD_31, st31⟩ := own_stI X30 hx hZ e30 A_xD_30 (j := (1 : Int32)) ⟨by decide, by decide⟩ (g := (mkF m 62 #[.val (.ref r0), .val (.int p1), .val (.int p2), .val (.int (1 : Int32)), .val (.int (1 : Int32))] [(.int (1 : Int32)), (.int (1 : Int32)), (.ref xD)])) rfl rfl (hb hby d9_62)
          have F_numbers_r0_31 := F_numbers_r0_30.other W31 (Or.inl (own_ne_arf E_r0_30 (hw _ (List.mem_of_getElem? (i := 5) rfl)) A_xD_30))
          have F_elements_r0_31 := F_elements_r0_30.other W31 (Or.inl (own_ne_arf E_r0_30 (hw _ (List.mem_of_getElem? (i := 5) rfl)) A_xD_30))
          have F_foundIn_r0_31 := F_foundIn_r0_30.other W31 (Or.inl (own_ne_arf E_r0_30 (hw _ (List.mem_of_getElem? (i := 5) rfl)) A_xD_30))
          have F_next_r0_31 := F_next_r0_30.other W31 (Or.inl (own_ne_arf E_r0_30 (hw _ (List.mem_of_getElem? (i := 5) rfl)) A_xD_30))
          have F_found_r0_31 := F_found_r0_30.other W31 (Or.inl (own_ne_arf E_r0_30 (hw _ (List.mem_of_getElem? (i := 5) rfl)) A_xD_30))
          have F_bucketShift_r0_31 := F_bucketShift_r0_30.other W31 (Or.inl (own_ne_arf E_r0_30 (hw _ (List.mem_of_getElem? (i := 5) rfl)) A_xD_30))
          have F_bucketStart_r0_31 := F_bucketStart_r0_30.other W31 (Or.inl (own_ne_arf E_r0_30 (hw _ (List.mem_of_getElem? (i := 5) rfl)) A_xD_30))
          have E_r0_31 := E_r0_30.wr W31
          have F_search_r0_31 := F_search_r0_30.other W31 (Or.inl (own_ne_arf E_r0_30 (hw _ (List.mem_of_getElem? (i := 5) rfl)) A_xD_30))
          have F_foundCount_r0_31 := F_foundCount_r0_30.other W31 (Or.inl (own_ne_arf E_r0_30 (hw _ (List.mem_of_getElem? (i := 5) rfl)) A_xD_30))
          have F_firstOnly_r0_31 := F_firstOnly_r0_30.other W31 (Or.inl (own_ne_arf E_r0_30 (hw _ (List.mem_of_getElem? (i := 5) rfl)) A_xD_30))
          have F_forRuns_r0_31 := F_forRuns_r0_30.other W31 (Or.inl (own_ne_arf E_r0_30 (hw _ (List.mem_of_getElem? (i := 5) rfl)) A_xD_30))
          have F_runsLength_r0_31 := F_runsLength_r0_30.other W31 (Or.inl (own_ne_arf E_r0_30 (hw _ (List.mem_of_getElem? (i := 5) rfl)) A_xD_30))
          have A_xN_31 := A_xN_30.other W31 ne_xN_xD
          have A_xF_31 := A_xF_30.other W31 ne_xF_xD
          have A_xX_31 := A_xX_30.other W31 ne_xX_xD
          have A_xB_31 := A_xB_30.other W31 (Ne.symm ne_xD_xB)
          have K31 := K30.wr W31 (Or.inl (List.mem_of_getElem? (i := 3) rfl))
          have N31 := Fr.snoc X31 N30 ge_xD
          have Z31 : n0 ≤ h31.size := Nat.le_trans Z30 (Keep.of_wr W31).1
          obtain ⟨f31, hf31⟩ : ∃ z, z = (own_set f15 (1 : Int32) (1 : Int32)) := ⟨_, rfl⟩
          rw [← hf31] at A_xD_31
          refine own_go (fun tg k => st31 tg k) ?_
          show own_Fin _ _ _ _ _ _ _ (T31.setTop (mkF m 63 #[.val (.ref r0), .val (.int p1), .val (.int p2), .val (.int (1 : Int32)), .val (.int (1 : Int32))] []))
          refine own_go (fun _ k => XS.aloadN X31.here hx rfl (hb hby d9_63) rfl rfl k) ?_
          refine own_go (fun _ k => XS.iloadN X31.here hx rfl (hb hby d9_64) rfl k) ?_
          refine own_go (fun _ k => XS.iconst X31.here hx rfl (hb hby d9_65) k) ?_
          refine own_go (fun _ k => XS.iadd X31.here hx rfl (hb hby d9_66) rfl k) ?_
          show own_Fin _ _ _ _ _ _ _ (T31.setTop (mkF m 67 #[.val (.ref r0), .val (.int p1), .val (.int p2), .val (.int (1 : Int32)), .val (.int (1 : Int32))] [(.int (2 : Int32)), (.ref r0)]))
          obtain ⟨cq32, q32, q32'⟩ := E_r0_31.cell
          obtain ⟨_, _, ⟨T32, L32, k32, n32⟩, -, X32, ⟨Lc32, hQ32, l32, y32, z32⟩, st32⟩ := X31.privateBack hx (y := (⟨"com/example/reachability/reachability/CandidateList", "open", "(I)I"⟩ : MethodName)) hown (mvT hZ (hw _ (List.mem_of_getElem? (i := 74) rfl))) (mvT hZ (hw _ (List.mem_of_getElem? (i := 75) rfl))) (own_selpriv (z := (⟨"com/example/reachability/reachability/CandidateList", "satisfied", "()Z"⟩ : MethodName)) rfl (mvT (args := #[]) hZ (hw _ (List.mem_of_getElem? (i := 45) rfl))) (Cond.privateMethod_at (mvP hZ (hw _ (List.mem_of_getElem? (i := 76) rfl)) (args := #[]))) (mvT hZ (hw _ (List.mem_of_getElem? (i := 75) rfl))) (by decide)) (Cond.privateMethod_at (mvP hZ (hw _ (List.mem_of_getElem? (i := 76) rfl)) (args := #[]))) (mvT hZ (hw _ (List.mem_of_getElem? (i := 77) rfl))) (by decide) (backOf (W := 0) (rm12f l Z a0 hw [] r0 (2 : Int32) xN gN xF f27 se h31 n0 Z31 F_numbers_r0_31 A_xN_31 F_foundIn_r0_31 A_xF_31 F_search_r0_31 ⟨by decide, fun _ => by rw [hf27, own_setne _ _ _ _ (by decide), hf11, own_setne _ _ _ _ (by decide)]; exact hp.2 2 (by decide)⟩) hZ (hw _ (List.mem_of_getElem? (i := 77) rfl)) (hw _ (List.mem_of_getElem? (i := 6) rfl)) (by decide) (by decide)) (g := (mkF m 67 #[.val (.ref r0), .val (.int p1), .val (.int p2), .val (.int (1 : Int32)), .val (.int (1 : Int32))] [(.int (2 : Int32)), (.ref r0)])) rfl (by rw [hml]; rfl) (Steps.refl _) (a := r0) (by rw [e31]; exact q32) q32' (argsL := [(.int (2 : Int32))]) (rest := []) (lenOf own_pd428 rfl) rfl (by show 2 * 0 + _ ≤ _; exact Nat.le_of_eq rfl) (hb hby d9_67) (fun _ _ => ⟨rfl, e31, (by decide : 0 + 0 ≤ _), (by decide : 0 + 0 ≤ _)⟩)
          dsimp only [Pt.U, Pt.locs, Pt.cells, Pt.slots] at X32 l32 y32 z32 st32 hQ32
          replace y32 : 0 = k32 := y32.symm
          replace z32 : 0 = n32 := z32.symm
          subst y32 z32
          obtain ⟨rfl, N32q, e32⟩ := hQ32
          have N32 : Fr n0 L32 := by rw [l32]; exact Fr.app N31 N32q
          refine own_go (fun tg k => st32.trans k) ?_
          show own_Fin _ _ _ _ _ _ _ (T32.setTop (mkF m 70 #[.val (.ref r0), .val (.int p1), .val (.int p2), .val (.int (1 : Int32)), .val (.int (1 : Int32))] [(.int (2 : Int32))]))
          refine own_go (fun _ k => XS.istore X32.here hx rfl (hb hby d9_70) rfl (l' := #[.val (.ref r0), .val (.int p1), .val (.int p2), .val (.int (1 : Int32)), .val (.int (2 : Int32))]) rfl k) ?_
          show own_Fin _ _ _ _ _ _ _ (T32.setTop (mkF m 72 #[.val (.ref r0), .val (.int p1), .val (.int p2), .val (.int (1 : Int32)), .val (.int (2 : Int32))] []))
          refine own_go (fun _ k => XS.aloadN X32.here hx rfl (hb hby d9_72) rfl rfl k) ?_
          obtain ⟨T33, X33, e33, st33⟩ := getF X32 hx hZ hown (host := "") (Or.inl (hw _ (List.mem_of_getElem? (i := 24) rfl))) Via.refl e32 F_next_r0_31 (g := (mkF m 73 #[.val (.ref r0), .val (.int p1), .val (.int p2), .val (.int (1 : Int32)), .val (.int (2 : Int32))] [(.ref r0)])) rfl rfl (hb hby d9_73)
          refine own_go (fun tg k => st33 tg k) ?_
          show own_Fin _ _ _ _ _ _ _ (T33.setTop (mkF m 76 #[.val (.ref r0), .val (.int p1), .val (.int p2), .val (.int (1 : Int32)), .val (.int (2 : Int32))] [(.ref xX)]))
          refine own_go (fun _ k => XS.iloadN X33.here hx rfl (hb hby d9_76) rfl k) ?_
          refine own_go (fun _ k => XS.iload X33.here hx rfl (hb hby d9_77) rfl k) ?_
          obtain ⟨T34, h34, X34, e34, W34, A_xX_34, st34⟩ := own_stI X33 hx hZ e33 A_xX_31 (j := (1 : Int32)) ⟨by decide, by decide⟩ (g := (mkF m 79 #[.val (.ref r0), .val (.int p1), .val (.int p2), .val (.int (1 : Int32)), .val (.int (2 : Int32))] [(.int (2 : Int32)), (.int (1 : Int32)), (.ref xX)])) rfl rfl (hb hby d9_79)
          have F_numbers_r0_34 := F_numbers_r0_31.other W34 (Or.inl (own_ne_arf E_r0_31 (hw _ (List.mem_of_getElem? (i := 5) rfl)) A_xX_31))
          have F_elements_r0_34 := F_elements_r0_31.other W34 (Or.inl (own_ne_arf E_r0_31 (hw _ (List.mem_of_getElem? (i := 5) rfl)) A_xX_31))
          have F_foundIn_r0_34 := F_foundIn_r0_31.other W34 (Or.inl (own_ne_arf E_r0_31 (hw _ (List.mem_of_getElem? (i := 5) rfl)) A_xX_31))
          have F_next_r0_34 := F_next_r0_31.other W34 (Or.inl (own_ne_arf E_r0_31 (hw _ (List.mem_of_getElem? (i := 5) rfl)) A_xX_31))
          have F_found_r0_34 := F_found_r0_31.other W34 (Or.inl (own_ne_arf E_r0_31 (hw _ (List.mem_of_getElem? (i := 5) rfl)) A_xX_31))
          have F_bucketShift_r0_34 := F_bucketShift_r0_31.other W34 (Or.inl (own_ne_arf E_r0_31 (hw _ (List.mem_of_getElem? (i := 5) rfl)) A_xX_31))
          have F_bucketStart_r0_34 := F_bucketStart_r0_31.other W34 (Or.inl (own_ne_arf E_r0_31 (hw _ (List.mem_of_getElem? (i := 5) rfl)) A_xX_31))
          have E_r0_34 := E_r0_31.wr W34
          have F_search_r0_34 := F_search_r0_31.other W34 (Or.inl (own_ne_arf E_r0_31 (hw _ (List.mem_of_getElem? (i := 5) rfl)) A_xX_31))
          have F_foundCount_r0_34 := F_foundCount_r0_31.other W34 (Or.inl (own_ne_arf E_r0_31 (hw _ (List.mem_of_getElem? (i := 5) rfl)) A_xX_31))
          have F_firstOnly_r0_34 := F_firstOnly_r0_31.other W34 (Or.inl (own_ne_arf E_r0_31 (hw _ (List.mem_of_getElem? (i := 5) rfl)) A_xX_31))
          have F_forRuns_r0_34 := F_forRuns_r0_31.other W34 (Or.inl (own_ne_arf E_r0_31 (hw _ (List.mem_of_getElem? (i := 5) rfl)) A_xX_31))
          have F_runsLength_r0_34 := F_runsLength_r0_31.other W34 (Or.inl (own_ne_arf E_r0_31 (hw _ (List.mem_of_getElem? (i := 5) rfl)) A_xX_31))
          have A_xN_34 := A_xN_31.other W34 ne_xN_xX
          have A_xF_34 := A_xF_31.other W34 ne_xF_xX
          have A_xD_34 := A_xD_31.other W34 (Ne.symm ne_xX_xD)
          have A_xB_34 := A_xB_31.other W34 (Ne.symm ne_xX_xB)
          have K34 := K31.wr W34 (Or.inl (List.mem_of_getElem? (i := 2) rfl))
          have N34 := Fr.snoc X34 N32 ge_xX
          have Z34 : n0 ≤ h34.size := Nat.le_trans Z31 (Keep.of_wr W34).1
          obtain ⟨f34, hf34⟩ : ∃ z, z = (own_set f18 (1 : Int32) (2 : Int32)) := ⟨_, rfl⟩
          rw [← hf34] at A_xX_34
          refine own_go (fun tg k => st34 tg k) ?_
          show own_Fin _ _ _ _ _ _ _ (T34.setTop (mkF m 80 #[.val (.ref r0), .val (.int p1), .val (.int p2), .val (.int (1 : Int32)), .val (.int (2 : Int32))] []))
          refine own_go (fun _ k => XS.iload X34.here hx rfl (hb hby d9_80) rfl k) ?_
          refine own_go (fun _ k => XS.istoreN X34.here hx rfl (hb hby d9_82) rfl (l' := #[.val (.ref r0), .val (.int p1), .val (.int p2), .val (.int (2 : Int32)), .val (.int (2 : Int32))]) rfl k) ?_
          show own_Fin _ _ _ _ _ _ _ (T34.setTop (mkF m 83 #[.val (.ref r0), .val (.int p1), .val (.int p2), .val (.int (2 : Int32)), .val (.int (2 : Int32))] []))
          refine own_go (fun _ k => XS.goto X34.here hx rfl (pc0 := 83) (pc' := 10) rfl (hb hby d9_83) (by decide) (by decide) k) ?_
          show own_Fin _ _ _ _ _ _ _ (T34.setTop (mkF m 10 #[.val (.ref r0), .val (.int p1), .val (.int p2), .val (.int (2 : Int32)), .val (.int (2 : Int32))] []))
          refine own_go (fun _ k => XS.iloadN X34.here hx rfl (hb hby d9_10) rfl k) ?_
          refine own_go (fun _ k => XS.aloadN X34.here hx rfl (hb hby d9_11) rfl rfl k) ?_
          obtain ⟨T35, X35, e35, st35⟩ := getF X34 hx hZ hown (host := "") (Or.inl (hw _ (List.mem_of_getElem? (i := 18) rfl))) Via.refl e34 F_numbers_r0_34 (g := (mkF m 12 #[.val (.ref r0), .val (.int p1), .val (.int p2), .val (.int (2 : Int32)), .val (.int (2 : Int32))] [(.ref r0), (.int (2 : Int32))])) rfl rfl (hb hby d9_12)
          refine own_go (fun tg k => st35 tg k) ?_
          show own_Fin _ _ _ _ _ _ _ (T35.setTop (mkF m 15 #[.val (.ref r0), .val (.int p1), .val (.int p2), .val (.int (2 : Int32)), .val (.int (2 : Int32))] [(.ref xN), (.int (2 : Int32))]))
          refine own_go (fun tg k => own_alen X35 hx hZ e35 A_xN_34 (g := (mkF m 15 #[.val (.ref r0), .val (.int p1), .val (.int p2), .val (.int (2 : Int32)), .val (.int (2 : Int32))] [(.ref xN), (.int (2 : Int32))])) rfl rfl (hb hby d9_15) tg k) ?_
          show own_Fin _ _ _ _ _ _ _ (T35.setTop (mkF m 16 #[.val (.ref r0), .val (.int p1), .val (.int p2), .val (.int (2 : Int32)), .val (.int (2 : Int32))] [(.int (3 : Int32)), (.int (2 : Int32))]))
          refine own_go (fun _ k => XS.icmpNo X35.here hx rfl (hb hby d9_16) rfl (tlt (by decide)).2.1 k) ?_
          show own_Fin _ _ _ _ _ _ _ (T35.setTop (mkF m 19 #[.val (.ref r0), .val (.int p1), .val (.int p2), .val (.int (2 : Int32)), .val (.int (2 : Int32))] []))
          refine own_go (fun _ k => XS.aloadN X35.here hx rfl (hb hby d9_19) rfl rfl k) ?_
          obtain ⟨T36, X36, e36, st36⟩ := getF X35 hx hZ hown (host := "") (Or.inl (hw _ (List.mem_of_getElem? (i := 18) rfl))) Via.refl e35 F_numbers_r0_34 (g := (mkF m 20 #[.val (.ref r0), .val (.int p1), .val (.int p2), .val (.int (2 : Int32)), .val (.int (2 : Int32))] [(.ref r0)])) rfl rfl (hb hby d9_20)
          refine own_go (fun tg k => st36 tg k) ?_
          show own_Fin _ _ _ _ _ _ _ (T36.setTop (mkF m 23 #[.val (.ref r0), .val (.int p1), .val (.int p2), .val (.int (2 : Int32)), .val (.int (2 : Int32))] [(.ref xN)]))
          refine own_go (fun _ k => XS.iloadN X36.here hx rfl (hb hby d9_23) rfl k) ?_
          refine own_go (fun tg k => own_iaload X36 hx hZ e36 A_xN_34 (j := (2 : Int32)) ⟨by decide, by decide⟩ (x := (gN 2)) rfl (g := (mkF m 24 #[.val (.ref r0), .val (.int p1), .val (.int p2), .val (.int (2 : Int32)), .val (.int (2 : Int32))] [(.int (2 : Int32)), (.ref xN)])) rfl rfl (hb hby d9_24) tg k) ?_
          show own_Fin _ _ _ _ _ _ _ (T36.setTop (mkF m 25 #[.val (.ref r0), .val (.int p1), .val (.int p2), .val (.int (2 : Int32)), .val (.int (2 : Int32))] [(.int (gN 2))]))
          refine own_go (fun _ k => XS.iloadN X36.here hx rfl (hb hby d9_25) rfl k) ?_
          show own_Fin _ _ _ _ _ _ _ (T36.setTop (mkF m 26 #[.val (.ref r0), .val (.int p1), .val (.int p2), .val (.int (2 : Int32)), .val (.int (2 : Int32))] [(.int p2), (.int (gN 2))]))
          by_cases hc37 : p2 < (gN 2)
          · refine own_go (fun _ k => XS.icmpYes X36.here hx rfl (pc0 := 26) (pc' := 86) rfl (hb hby d9_26) rfl (tlt hc37).2.2.1 (by decide) (by decide) k) ?_
            show own_Fin _ _ _ _ _ _ _ (T36.setTop (mkF m 86 #[.val (.ref r0), .val (.int p1), .val (.int p2), .val (.int (2 : Int32)), .val (.int (2 : Int32))] []))
            refine own_go (fun _ k => XS.aloadN X36.here hx rfl (hb hby d9_86) rfl rfl k) ?_
            refine own_go (fun _ k => XS.iloadN X36.here hx rfl (hb hby d9_87) rfl k) ?_
            obtain ⟨cq38, q38, q38'⟩ := E_r0_34.cell
            obtain ⟨_, _, ⟨T38, L38, k38, n38⟩, -, X38, ⟨Lc38, hQ38, l38, y38, z38⟩, st38⟩ := X36.privateBack hx (y := (⟨"com/example/reachability/reachability/CandidateList", "numberOf", "(I)I"⟩ : MethodName)) hown (mvT hZ (hw _ (List.mem_of_getElem? (i := 78) rfl))) (mvT hZ (hw _ (List.mem_of_getElem? (i := 79) rfl))) (own_selpriv (z := (⟨"com/example/reachability/reachability/CandidateList", "satisfied", "()Z"⟩ : MethodName)) rfl (mvT (args := #[]) hZ (hw _ (List.mem_of_getElem? (i := 45) rfl))) (Cond.privateMethod_at (mvP hZ (hw _ (List.mem_of_getElem? (i := 80) rfl)) (args := #[]))) (mvT hZ (hw _ (List.mem_of_getElem? (i := 79) rfl))) (by decide)) (Cond.privateMethod_at (mvP hZ (hw _ (List.mem_of_getElem? (i := 80) rfl)) (args := #[]))) (mvT hZ (hw _ (List.mem_of_getElem? (i := 81) rfl))) (by decide) (backOf (W := 0) (rm13 l Z a0 hw [] r0 (2 : Int32) xN gN h34 n0 Z34 F_numbers_r0_34 A_xN_34 (by decide)) hZ (hw _ (List.mem_of_getElem? (i := 81) rfl)) (hw _ (List.mem_of_getElem? (i := 6) rfl)) (by decide) (by decide)) (g := (mkF m 88 #[.val (.ref r0), .val (.int p1), .val (.int p2), .val (.int (2 : Int32)), .val (.int (2 : Int32))] [(.int (2 : Int32)), (.ref r0)])) rfl (by rw [hml]; rfl) (Steps.refl _) (a := r0) (by rw [e36]; exact q38) q38' (argsL := [(.int (2 : Int32))]) (rest := []) (lenOf own_pd428 rfl) rfl (by show 2 * 0 + _ ≤ _; exact Nat.le_of_eq rfl) (hb hby d9_88) (fun _ _ => ⟨rfl, e36, (by decide : 0 + 0 ≤ _), (by decide : 0 + 0 ≤ _)⟩)
            dsimp only [Pt.U, Pt.locs, Pt.cells, Pt.slots] at X38 l38 y38 z38 st38 hQ38
            replace y38 : 0 = k38 := y38.symm
            replace z38 : 0 = n38 := z38.symm
            subst y38 z38
            obtain ⟨rfl, N38q, e38⟩ := hQ38
            have N38 : Fr n0 L38 := by rw [l38]; exact Fr.app N34 N38q
            refine own_go (fun tg k => st38.trans k) ?_
            show own_Fin _ _ _ _ _ _ _ (T38.setTop (mkF m 91 #[.val (.ref r0), .val (.int p1), .val (.int p2), .val (.int (2 : Int32)), .val (.int (2 : Int32))] [(.int (own_f13 (2 : Int32) gN))]))
            refine own_ret X38 hx hlk Bd.returns rfl (Or.inl ⟨rfl, by simp, _, rfl⟩) (hb hby d9_91) (Nat.le_of_ble_eq_true rfl) (Nat.le_of_ble_eq_true rfl) ?_
            rw [e38]
            refine ⟨(own_lf_own_f9f_11 (p1 := p1) (p2 := p2) (sh := sh) (se := se) (fo := fo) (fr := fr) (rl := rl) (gN := gN) (gF := gF) (gX := gX) (gD := gD) (nB := nB) (gB := gB) hs3 hc6 hc21 hc24 hc37), N38, K34, ?_, ?_, ?_, ?_, ?_, ?_, ?_, E_r0_34, ?_, (by rw [← (own_lf_own_f9f_12 (p1 := p1) (p2 := p2) (sh := sh) (se := se) (fo := fo) (fr := fr) (rl := rl) (gN := gN) (gF := gF) (gX := gX) (gD := gD) (nB := nB) (gB := gB) hs3 hc6 hc21 hc24 hc37)]; exact F_foundCount_r0_34), ?_, ?_, ?_, (by rw [← (own_lf_own_f9f_13 (p1 := p1) (p2 := p2) (sh := sh) (se := se) (fo := fo) (fr := fr) (rl := rl) (gN := gN) (gF := gF) (gX := gX) (gD := gD) (nB := nB) (gB := gB) hf11 hf27 hs3 hc6 hc21 hc24 hc37)]; exact A_xF_34), (by rw [← (own_lf_own_f9f_14 (p1 := p1) (p2 := p2) (sh := sh) (se := se) (fo := fo) (fr := fr) (rl := rl) (gN := gN) (gF := gF) (gX := gX) (gD := gD) (nB := nB) (gB := gB) hf18 hf34 hs3 hc6 hc21 hc24 hc37)]; exact A_xX_34), (by rw [← (own_lf_own_f9f_15 (p1 := p1) (p2 := p2) (sh := sh) (se := se) (fo := fo) (fr := fr) (rl := rl) (gN := gN) (gF := gF) (gX := gX) (gD := gD) (nB := nB) (gB := gB) hf15 hf31 hs3 hc6 hc21 hc24 hc37)]; exact A_xD_34)⟩
            all_goals try subst hf34
            all_goals try subst hf31
            all_goals try subst hf27
            all_goals try subst hf18
            all_goals try subst hf15
            all_goals try subst hf11
            · first | (exact F_numbers_r0_34) | (simp only [if_pos hs3, if_neg hc6, if_neg hc21, if_pos hc24, if_pos hc37]; exact F_numbers_r0_34)
            · first | (exact F_elements_r0_34) | (simp only [if_pos hs3, if_neg hc6, if_neg hc21, if_pos hc24, if_pos hc37]; exact F_elements_r0_34)
            · first | (exact F_foundIn_r0_34) | (simp only [if_pos hs3, if_neg hc6, if_neg hc21, if_pos hc24, if_pos hc37]; exact F_foundIn_r0_34)
            · first | (exact F_next_r0_34) | (simp only [if_pos hs3, if_neg hc6, if_neg hc21, if_pos hc24, if_pos hc37]; exact F_next_r0_34)
            · first | (exact F_found_r0_34) | (simp only [if_pos hs3, if_neg hc6, if_neg hc21, if_pos hc24, if_pos hc37]; exact F_found_r0_34)
            · first | (exact F_bucketShift_r0_34) | (simp only [if_pos hs3, if_neg hc6, if_neg hc21, if_pos hc24, if_pos hc37]; exact F_bucketShift_r0_34)
            · first | (exact F_bucketStart_r0_34) | (simp only [if_pos hs3, if_neg hc6, if_neg hc21, if_pos hc24, if_pos hc37]; exact F_bucketStart_r0_34)
            · first | (exact F_search_r0_34) | (simp only [if_pos hs3, if_neg hc6, if_neg hc21, if_pos hc24, if_pos hc37]; exact F_search_r0_34)
            · first | (exact F_firstOnly_r0_34) | (simp only [if_pos hs3, if_neg hc6, if_neg hc21, if_pos hc24, if_pos hc37]; exact F_firstOnly_r0_34)
            · first | (exact F_forRuns_r0_34) | (simp only [if_pos hs3, if_neg hc6, if_neg hc21, if_pos hc24, if_pos hc37]; exact F_forRuns_r0_34)
            · first | (exact F_runsLength_r0_34) | (simp only [if_pos hs3, if_neg hc6, if_neg hc21, if_pos hc24, if_pos hc37]; exact F_runsLength_r0_34)
          · refine own_go (fun _ k => XS.icmpNo X36.here hx rfl (hb hby d9_26) rfl (flt hc37).2.2.1 k) ?_
            show own_Fin _ _ _ _ _ _ _ (T36.setTop (mkF m 29 #[.val (.ref r0), .val (.int p1), .val (.int p2), .val (.int (2 : Int32)), .val (.int (2 : Int32))] []))
            refine own_go (fun _ k => XS.aloadN X36.here hx rfl (hb hby d9_29) rfl rfl k) ?_
            obtain ⟨cq39, kq39, q39a, q39b, q39c⟩ := isOf hZ e36 E_r0_34
            obtain ⟨_, _, ⟨T39, L39, k39, n39⟩, -, X39, ⟨Lc39, hQ39, l39, y39, z39⟩, st39⟩ := X36.virtualBack hx (y := (⟨"com/example/reachability/reachability/CandidateList", "satisfied", "()Z"⟩ : MethodName)) (z := (⟨"com/example/reachability/reachability/CandidateList", "satisfied", "()Z"⟩ : MethodName)) hown (mvT hZ (hw _ (List.mem_of_getElem? (i := 82) rfl))) (mvT hZ (hw _ (List.mem_of_getElem? (i := 43) rfl))) (notFace_of_selects (args := #[]) (mvT hZ (hw _ (List.mem_of_getElem? (i := 45) rfl)))) (mvT hZ (hw _ (List.mem_of_getElem? (i := 45) rfl))) (mvT hZ (hw _ (List.mem_of_getElem? (i := 44) rfl))) (by decide) (backOf (W := 0) (rm7 l Z a0 hw [] r0 fo (2 : Int32) h34 n0 Z34 F_firstOnly_r0_34 F_foundCount_r0_34) hZ (hw _ (List.mem_of_getElem? (i := 46) rfl)) (hw _ (List.mem_of_getElem? (i := 6) rfl)) (by decide) (by decide)) q39a q39c (g := (mkF m 30 #[.val (.ref r0), .val (.int p1), .val (.int p2), .val (.int (2 : Int32)), .val (.int (2 : Int32))] [(.ref r0)])) rfl (by rw [hml]; rfl) (Steps.refl _) (argsL := []) (rest := []) (lenOf own_pd429 rfl) rfl (by show 2 * 0 + _ ≤ _; exact Nat.le_of_eq rfl) (hb hby d9_30) (fun _ _ => ⟨rfl, e36, (by decide : 0 + 0 ≤ _), (by decide : 0 + 0 ≤ _)⟩)
            dsimp only [Pt.U, Pt.locs, Pt.cells, Pt.slots] at X39 l39 y39 z39 st39 hQ39
            replace y39 : 0 = k39 := y39.symm
            replace z39 : 0 = n39 := z39.symm
            subst y39 z39
            obtain ⟨rfl, N39q, e39⟩ := hQ39
            have N39 : Fr n0 L39 := by rw [l39]; exact Fr.app N34 N39q
            refine own_go (fun tg k => st39.trans k) ?_
            show own_Fin _ _ _ _ _ _ _ (T39.setTop (mkF m 33 #[.val (.ref r0), .val (.int p1), .val (.int p2), .val (.int (2 : Int32)), .val (.int (2 : Int32))] [(.int (own_f7 fo (2 : Int32)))]))
            by_cases hc40 : (own_f7 fo (2 : Int32)) = (0 : Int32)
            · refine own_go (fun _ k => XS.ifNo X39.here hx rfl (hb hby d9_33) rfl ((if0 _ _).trans (teq hc40).2) k) ?_
              show own_Fin _ _ _ _ _ _ _ (T39.setTop (mkF m 36 #[.val (.ref r0), .val (.int p1), .val (.int p2), .val (.int (2 : Int32)), .val (.int (2 : Int32))] []))
              refine own_go (fun _ k => XS.aloadN X39.here hx rfl (hb hby d9_36) rfl rfl k) ?_
              obtain ⟨T41, X41, e41, st41⟩ := getF X39 hx hZ hown (host := "") (Or.inl (hw _ (List.mem_of_getElem? (i := 22) rfl))) Via.refl e39 F_foundIn_r0_34 (g := (mkF m 37 #[.val (.ref r0), .val (.int p1), .val (.int p2), .val (.int (2 : Int32)), .val (.int (2 : Int32))] [(.ref r0)])) rfl rfl (hb hby d9_37)
              refine own_go (fun tg k => st41 tg k) ?_
              show own_Fin _ _ _ _ _ _ _ (T41.setTop (mkF m 40 #[.val (.ref r0), .val (.int p1), .val (.int p2), .val (.int (2 : Int32)), .val (.int (2 : Int32))] [(.ref xF)]))
              refine own_go (fun _ k => XS.iloadN X41.here hx rfl (hb hby d9_40) rfl k) ?_
              refine own_go (fun _ k => XS.aloadN X41.here hx rfl (hb hby d9_41) rfl rfl k) ?_
              obtain ⟨T42, X42, e42, st42⟩ := getF X41 hx hZ hown (host := "") (Or.inl (hw _ (List.mem_of_getElem? (i := 14) rfl))) Via.refl e41 F_search_r0_34 (g := (mkF m 42 #[.val (.ref r0), .val (.int p1), .val (.int p2), .val (.int (2 : Int32)), .val (.int (2 : Int32))] [(.ref r0), (.int (2 : Int32)), (.ref xF)])) rfl rfl (hb hby d9_42)
              refine own_go (fun tg k => st42 tg k) ?_
              show own_Fin _ _ _ _ _ _ _ (T42.setTop (mkF m 45 #[.val (.ref r0), .val (.int p1), .val (.int p2), .val (.int (2 : Int32)), .val (.int (2 : Int32))] [(.int se), (.int (2 : Int32)), (.ref xF)]))
              obtain ⟨T43, h43, X43, e43, W43, A_xF_43, st43⟩ := own_stI X42 hx hZ e42 A_xF_34 (j := (2 : Int32)) ⟨by decide, by decide⟩ (g := (mkF m 45 #[.val (.ref r0), .val (.int p1), .val (.int p2), .val (.int (2 : Int32)), .val (.int (2 : Int32))] [(.int se), (.int (2 : Int32)), (.ref xF)])) rfl rfl (hb hby d9_45)
              have F_numbers_r0_43 := F_numbers_r0_34.other W43 (Or.inl (own_ne_arf E_r0_34 (hw _ (List.mem_of_getElem? (i := 5) rfl)) A_xF_34))
              have F_elements_r0_43 := F_elements_r0_34.other W43 (Or.inl (own_ne_arf E_r0_34 (hw _ (List.mem_of_getElem? (i := 5) rfl)) A_xF_34))
              have F_foundIn_r0_43 := F_foundIn_r0_34.other W43 (Or.inl (own_ne_arf E_r0_34 (hw _ (List.mem_of_getElem? (i := 5) rfl)) A_xF_34))
              have F_next_r0_43 := F_next_r0_34.other W43 (Or.inl (own_ne_arf E_r0_34 (hw _ (List.mem_of_getElem? (i := 5) rfl)) A_xF_34))
              have F_found_r0_43 := F_found_r0_34.other W43 (Or.inl (own_ne_arf E_r0_34 (hw _ (List.mem_of_getElem? (i := 5) rfl)) A_xF_34))
              have F_bucketShift_r0_43 := F_bucketShift_r0_34.other W43 (Or.inl (own_ne_arf E_r0_34 (hw _ (List.mem_of_getElem? (i := 5) rfl)) A_xF_34))
              have F_bucketStart_r0_43 := F_bucketStart_r0_34.other W43 (Or.inl (own_ne_arf E_r0_34 (hw _ (List.mem_of_getElem? (i := 5) rfl)) A_xF_34))
              have E_r0_43 := E_r0_34.wr W43
              have F_search_r0_43 := F_search_r0_34.other W43 (Or.inl (own_ne_arf E_r0_34 (hw _ (List.mem_of_getElem? (i := 5) rfl)) A_xF_34))
              have F_foundCount_r0_43 := F_foundCount_r0_34.other W43 (Or.inl (own_ne_arf E_r0_34 (hw _ (List.mem_of_getElem? (i := 5) rfl)) A_xF_34))
              have F_firstOnly_r0_43 := F_firstOnly_r0_34.other W43 (Or.inl (own_ne_arf E_r0_34 (hw _ (List.mem_of_getElem? (i := 5) rfl)) A_xF_34))
              have F_forRuns_r0_43 := F_forRuns_r0_34.other W43 (Or.inl (own_ne_arf E_r0_34 (hw _ (List.mem_of_getElem? (i := 5) rfl)) A_xF_34))
              have F_runsLength_r0_43 := F_runsLength_r0_34.other W43 (Or.inl (own_ne_arf E_r0_34 (hw _ (List.mem_of_getElem? (i := 5) rfl)) A_xF_34))
              have A_xN_43 := A_xN_34.other W43 ne_xN_xF
              have A_xX_43 := A_xX_34.other W43 (Ne.symm ne_xF_xX)
              have A_xD_43 := A_xD_34.other W43 (Ne.symm ne_xF_xD)
              have A_xB_43 := A_xB_34.other W43 (Ne.symm ne_xF_xB)
              have K43 := K34.wr W43 (Or.inl (List.mem_of_getElem? (i := 1) rfl))
              have N43 := Fr.snoc X43 N39 ge_xF
              have Z43 : n0 ≤ h43.size := Nat.le_trans Z34 (Keep.of_wr W43).1
              obtain ⟨f43, hf43⟩ : ∃ z, z = (own_set f27 (2 : Int32) se) := ⟨_, rfl⟩
              rw [← hf43] at A_xF_43
              refine own_go (fun tg k => st43 tg k) ?_
              show own_Fin _ _ _ _ _ _ _ (T43.setTop (mkF m 46 #[.val (.ref r0), .val (.int p1), .val (.int p2), .val (.int (2 : Int32)), .val (.int (2 : Int32))] []))
              refine own_go (fun _ k => XS.aloadN X43.here hx rfl (hb hby d9_46) rfl rfl k) ?_
              obtain ⟨T44, X44, e44, st44⟩ := getF X43 hx hZ hown (host := "") (Or.inl (hw _ (List.mem_of_getElem? (i := 26) rfl))) Via.refl e43 F_found_r0_43 (g := (mkF m 47 #[.val (.ref r0), .val (.int p1), .val (.int p2), .val (.int (2 : Int32)), .val (.int (2 : Int32))] [(.ref r0)])) rfl rfl (hb hby d9_47)
              refine own_go (fun tg k => st44 tg k) ?_
              show own_Fin _ _ _ _ _ _ _ (T44.setTop (mkF m 50 #[.val (.ref r0), .val (.int p1), .val (.int p2), .val (.int (2 : Int32)), .val (.int (2 : Int32))] [(.ref xD)]))
              refine own_go (fun _ k => XS.aloadN X44.here hx rfl (hb hby d9_50) rfl rfl k) ?_
              refine own_go (fun _ k => XS.dup X44.here hx rfl (hb hby d9_51) rfl rfl k) ?_
              obtain ⟨T45, X45, e45, st45⟩ := getF X44 hx hZ hown (host := "") (Or.inl (hw _ (List.mem_of_getElem? (i := 55) rfl))) Via.refl e44 F_foundCount_r0_43 (g := (mkF m 52 #[.val (.ref r0), .val (.int p1), .val (.int p2), .val (.int (2 : Int32)), .val (.int (2 : Int32))] [(.ref r0), (.ref r0), (.ref xD)])) rfl rfl (hb hby d9_52)
              refine own_go (fun tg k => st45 tg k) ?_
              show own_Fin _ _ _ _ _ _ _ (T45.setTop (mkF m 55 #[.val (.ref r0), .val (.int p1), .val (.int p2), .val (.int (2 : Int32)), .val (.int (2 : Int32))] [(.int (2 : Int32)), (.ref r0), (.ref xD)]))
              refine own_go (fun _ k => XS.dupX1 X45.here hx rfl (hb hby d9_55) rfl rfl rfl k) ?_
              show own_Fin _ _ _ _ _ _ _ (T45.setTop (mkF m 56 #[.val (.ref r0), .val (.int p1), .val (.int p2), .val (.int (2 : Int32)), .val (.int (2 : Int32))] [(.int (2 : Int32)), (.ref r0), (.int (2 : Int32)), (.ref xD)]))
              refine own_go (fun _ k => XS.iconst X45.here hx rfl (hb hby d9_56) k) ?_
              refine own_go (fun _ k => XS.iadd X45.here hx rfl (hb hby d9_57) rfl k) ?_
              show own_Fin _ _ _ _ _ _ _ (T45.setTop (mkF m 58 #[.val (.ref r0), .val (.int p1), .val (.int p2), .val (.int (2 : Int32)), .val (.int (2 : Int32))] [(.int (3 : Int32)), (.ref r0), (.int (2 : Int32)), (.ref xD)]))
              obtain ⟨T46, h46, X46, e46, W46, st46⟩ := putF X45 hx hZ hown (host := "") (Or.inl (hw _ (List.mem_of_getElem? (i := 55) rfl))) Via.refl e45 F_foundCount_r0_43 E_r0_43 (Or.inl (hw _ (List.mem_of_getElem? (i := 56) rfl))) (hw _ (List.mem_of_getElem? (i := 5) rfl)) (ty := .int) (by decide) rfl rfl (g := (mkF m 58 #[.val (.ref r0), .val (.int p1), .val (.int p2), .val (.int (2 : Int32)), .val (.int (2 : Int32))] [(.int (3 : Int32)), (.ref r0), (.int (2 : Int32)), (.ref xD)])) rfl rfl (hb hby d9_58)
              have F_numbers_r0_46 := F_numbers_r0_43.other W46 (Or.inr (own_sn360 hw))
              have F_elements_r0_46 := F_elements_r0_43.other W46 (Or.inr (own_sn361 hw))
              have F_foundIn_r0_46 := F_foundIn_r0_43.other W46 (Or.inr (own_sn362 hw))
              have F_next_r0_46 := F_next_r0_43.other W46 (Or.inr (own_sn363 hw))
              have F_found_r0_46 := F_found_r0_43.other W46 (Or.inr (own_sn364 hw))
              have F_bucketShift_r0_46 := F_bucketShift_r0_43.other W46 (Or.inr (own_sn365 hw))
              have F_bucketStart_r0_46 := F_bucketStart_r0_43.other W46 (Or.inr (own_sn366 hw))
              have E_r0_46 := E_r0_43.wr W46
              have F_search_r0_46 := F_search_r0_43.other W46 (Or.inr (own_sn367 hw))
              have F_firstOnly_r0_46 := F_firstOnly_r0_43.other W46 (Or.inr (own_sn368 hw))
              have F_forRuns_r0_46 := F_forRuns_r0_43.other W46 (Or.inr (own_sn369 hw))
              have F_runsLength_r0_46 := F_runsLength_r0_43.other W46 (Or.inr (own_sn370 hw))
              have A_xN_46 := A_xN_43.other W46 (Ne.symm (own_ne_arf E_r0_43 (hw _ (List.mem_of_getElem? (i := 5) rfl)) A_xN_43))
              have A_xF_46 := A_xF_43.other W46 (Ne.symm (own_ne_arf E_r0_43 (hw _ (List.mem_of_getElem? (i := 5) rfl)) A_xF_43))
              have A_xX_46 := A_xX_43.other W46 (Ne.symm (own_ne_arf E_r0_43 (hw _ (List.mem_of_getElem? (i := 5) rfl)) A_xX_43))
              have A_xD_46 := A_xD_43.other W46 (Ne.symm (own_ne_arf E_r0_43 (hw _ (List.mem_of_getElem? (i := 5) rfl)) A_xD_43))
              have A_xB_46 := A_xB_43.other W46 (Ne.symm (own_ne_arf E_r0_43 (hw _ (List.mem_of_getElem? (i := 5) rfl)) A_xB_43))
              have K46 := K43.wr W46 (Or.inl (List.mem_of_getElem? (i := 0) rfl))
              have N46 := Fr.snoc X46 N43 ge_r0
              have Z46 : n0 ≤ h46.size := Nat.le_trans Z43 (Keep.of_wr W46).1
              have F_foundCount_r0_46 := F_foundCount_r0_43.same W46
              refine own_go (fun tg k => st46 tg k) ?_
              show own_Fin _ _ _ _ _ _ _ (T46.setTop (mkF m 61 #[.val (.ref r0), .val (.int p1), .val (.int p2), .val (.int (2 : Int32)), .val (.int (2 : Int32))] [(.int (2 : Int32)), (.ref xD)]))
              refine own_go (fun _ k => XS.iloadN X46.here hx rfl (hb hby d9_61) rfl k) ?_
              obtain ⟨T47, h47, X47, e47, W47, A_xD_47, st47⟩ := own_stI X46 hx hZ e46 A_xD_46 (j := (2 : Int32)) ⟨by decide, by decide⟩ (g := (mkF m 62 #[.val (.ref r0), .val (.int p1), .val (.int p2), .val (.int (2 : Int32)), .val (.int (2 : Int32))] [(.int (2 : Int32)), (.int (2 : Int32)), (.ref xD)])) rfl rfl (hb hby d9_62)
              have F_numbers_r0_47 := F_numbers_r0_46.other W47 (Or.inl (own_ne_arf E_r0_46 (hw _ (List.mem_of_getElem? (i := 5) rfl)) A_xD_46))
              have F_elements_r0_47 := F_elements_r0_46.other W47 (Or.inl (own_ne_arf E_r0_46 (hw _ (List.mem_of_getElem? (i := 5) rfl)) A_xD_46))
              have F_foundIn_r0_47 := F_foundIn_r0_46.other W47 (Or.inl (own_ne_arf E_r0_46 (hw _ (List.mem_of_getElem? (i := 5) rfl)) A_xD_46))
              have F_next_r0_47 := F_next_r0_46.other W47 (Or.inl (own_ne_arf E_r0_46 (hw _ (List.mem_of_getElem? (i := 5) rfl)) A_xD_46))
              have F_found_r0_47 := F_found_r0_46.other W47 (Or.inl (own_ne_arf E_r0_46 (hw _ (List.mem_of_getElem? (i := 5) rfl)) A_xD_46))
              have F_bucketShift_r0_47 := F_bucketShift_r0_46.other W47 (Or.inl (own_ne_arf E_r0_46 (hw _ (List.mem_of_getElem? (i := 5) rfl)) A_xD_46))
              have F_bucketStart_r0_47 := F_bucketStart_r0_46.other W47 (Or.inl (own_ne_arf E_r0_46 (hw _ (List.mem_of_getElem? (i := 5) rfl)) A_xD_46))
              have E_r0_47 := E_r0_46.wr W47
              have F_search_r0_47 := F_search_r0_46.other W47 (Or.inl (own_ne_arf E_r0_46 (hw _ (List.mem_of_getElem? (i := 5) rfl)) A_xD_46))
              have F_foundCount_r0_47 := F_foundCount_r0_46.other W47 (Or.inl (own_ne_arf E_r0_46 (hw _ (List.mem_of_getElem? (i := 5) rfl)) A_xD_46))
              have F_firstOnly_r0_47 := F_firstOnly_r0_46.other W47 (Or.inl (own_ne_arf E_r0_46 (hw _ (List.mem_of_getElem? (i := 5) rfl)) A_xD_46))
              have F_forRuns_r0_47 := F_forRuns_r0_46.other W47 (Or.inl (own_ne_arf E_r0_46 (hw _ (List.mem_of_getElem? (i := 5) rfl)) A_xD_46))
              have F_runsLength_r0_47 := F_runsLength_r0_46.other W47 (Or.inl (own_ne_arf E_r0_46 (hw _ (List.mem_of_getElem? (i := 5) rfl)) A_xD_46))
              have A_xN_47 := A_xN_46.other W47 ne_xN_xD
              have A_xF_47 := A_xF_46.other W47 ne_xF_xD
              have A_xX_47 := A_xX_46.other W47 ne_xX_xD
              have A_xB_47 := A_xB_46.other W47 (Ne.symm ne_xD_xB)
              have K47 := K46.wr W47 (Or.inl (List.mem_of_getElem? (i := 3) rfl))
              have N47 := Fr.snoc X47 N46 ge_xD
              have Z47 : n0 ≤ h47.size := Nat.le_trans Z46 (Keep.of_wr W47).1
              obtain ⟨f47, hf47⟩ : ∃ z, z = (own_set f31 (2 : Int32) (2 : Int32)) := ⟨_, rfl⟩
              rw [← hf47] at A_xD_47
              refine own_go (fun tg k => st47 tg k) ?_
              show own_Fin _ _ _ _ _ _ _ (T47.setTop (mkF m 63 #[.val (.ref r0), .val (.int p1), .val (.int p2), .val (.int (2 : Int32)), .val (.int (2 : Int32))] []))
              refine own_go (fun _ k => XS.aloadN X47.here hx rfl (hb hby d9_63) rfl rfl k) ?_
              refine own_go (fun _ k => XS.iloadN X47.here hx rfl (hb hby d9_64) rfl k) ?_
              refine own_go (fun _ k => XS.iconst X47.here hx rfl (hb hby d9_65) k) ?_
              refine own_go (fun _ k => XS.iadd X47.here hx rfl (hb hby d9_66) rfl k) ?_
              show own_Fin _ _ _ _ _ _ _ (T47.setTop (mkF m 67 #[.val (.ref r0), .val (.int p1), .val (.int p2), .val (.int (2 : Int32)), .val (.int (2 : Int32))] [(.int (3 : Int32)), (.ref r0)]))
              obtain ⟨cq48, q48, q48'⟩ := E_r0_47.cell
              obtain ⟨_, _, ⟨T48, L48, k48, n48⟩, -, X48, ⟨Lc48, hQ48, l48, y48, z48⟩, st48⟩ := X47.privateBack hx (y := (⟨"com/example/reachability/reachability/CandidateList", "open", "(I)I"⟩ : MethodName)) hown (mvT hZ (hw _ (List.mem_of_getElem? (i := 74) rfl))) (mvT hZ (hw _ (List.mem_of_getElem? (i := 75) rfl))) (own_selpriv (z := (⟨"com/example/reachability/reachability/CandidateList", "satisfied", "()Z"⟩ : MethodName)) rfl (mvT (args := #[]) hZ (hw _ (List.mem_of_getElem? (i := 45) rfl))) (Cond.privateMethod_at (mvP hZ (hw _ (List.mem_of_getElem? (i := 76) rfl)) (args := #[]))) (mvT hZ (hw _ (List.mem_of_getElem? (i := 75) rfl))) (by decide)) (Cond.privateMethod_at (mvP hZ (hw _ (List.mem_of_getElem? (i := 76) rfl)) (args := #[]))) (mvT hZ (hw _ (List.mem_of_getElem? (i := 77) rfl))) (by decide) (backOf (W := 0) (rm12f l Z a0 hw [] r0 (3 : Int32) xN gN xF f43 se h47 n0 Z47 F_numbers_r0_47 A_xN_47 F_foundIn_r0_47 A_xF_47 F_search_r0_47 ⟨by decide, fun q => absurd q (by decide)⟩) hZ (hw _ (List.mem_of_getElem? (i := 77) rfl)) (hw _ (List.mem_of_getElem? (i := 6) rfl)) (by decide) (by decide)) (g := (mkF m 67 #[.val (.ref r0), .val (.int p1), .val (.int p2), .val (.int (2 : Int32)), .val (.int (2 : Int32))] [(.int (3 : Int32)), (.ref r0)])) rfl (by rw [hml]; rfl) (Steps.refl _) (a := r0) (by rw [e47]; exact q48) q48' (argsL := [(.int (3 : Int32))]) (rest := []) (lenOf own_pd428 rfl) rfl (by show 2 * 0 + _ ≤ _; exact Nat.le_of_eq rfl) (hb hby d9_67) (fun _ _ => ⟨rfl, e47, (by decide : 0 + 0 ≤ _), (by decide : 0 + 0 ≤ _)⟩)
              dsimp only [Pt.U, Pt.locs, Pt.cells, Pt.slots] at X48 l48 y48 z48 st48 hQ48
              replace y48 : 0 = k48 := y48.symm
              replace z48 : 0 = n48 := z48.symm
              subst y48 z48
              obtain ⟨rfl, N48q, e48⟩ := hQ48
              have N48 : Fr n0 L48 := by rw [l48]; exact Fr.app N47 N48q
              refine own_go (fun tg k => st48.trans k) ?_
              show own_Fin _ _ _ _ _ _ _ (T48.setTop (mkF m 70 #[.val (.ref r0), .val (.int p1), .val (.int p2), .val (.int (2 : Int32)), .val (.int (2 : Int32))] [(.int (3 : Int32))]))
              refine own_go (fun _ k => XS.istore X48.here hx rfl (hb hby d9_70) rfl (l' := #[.val (.ref r0), .val (.int p1), .val (.int p2), .val (.int (2 : Int32)), .val (.int (3 : Int32))]) rfl k) ?_
              show own_Fin _ _ _ _ _ _ _ (T48.setTop (mkF m 72 #[.val (.ref r0), .val (.int p1), .val (.int p2), .val (.int (2 : Int32)), .val (.int (3 : Int32))] []))
              refine own_go (fun _ k => XS.aloadN X48.here hx rfl (hb hby d9_72) rfl rfl k) ?_
              obtain ⟨T49, X49, e49, st49⟩ := getF X48 hx hZ hown (host := "") (Or.inl (hw _ (List.mem_of_getElem? (i := 24) rfl))) Via.refl e48 F_next_r0_47 (g := (mkF m 73 #[.val (.ref r0), .val (.int p1), .val (.int p2), .val (.int (2 : Int32)), .val (.int (3 : Int32))] [(.ref r0)])) rfl rfl (hb hby d9_73)
              refine own_go (fun tg k => st49 tg k) ?_
              show own_Fin _ _ _ _ _ _ _ (T49.setTop (mkF m 76 #[.val (.ref r0), .val (.int p1), .val (.int p2), .val (.int (2 : Int32)), .val (.int (3 : Int32))] [(.ref xX)]))
              refine own_go (fun _ k => XS.iloadN X49.here hx rfl (hb hby d9_76) rfl k) ?_
              refine own_go (fun _ k => XS.iload X49.here hx rfl (hb hby d9_77) rfl k) ?_
              obtain ⟨T50, h50, X50, e50, W50, A_xX_50, st50⟩ := own_stI X49 hx hZ e49 A_xX_47 (j := (2 : Int32)) ⟨by decide, by decide⟩ (g := (mkF m 79 #[.val (.ref r0), .val (.int p1), .val (.int p2), .val (.int (2 : Int32)), .val (.int (3 : Int32))] [(.int (3 : Int32)), (.int (2 : Int32)), (.ref xX)])) rfl rfl (hb hby d9_79)
              have F_numbers_r0_50 := F_numbers_r0_47.other W50 (Or.inl (own_ne_arf E_r0_47 (hw _ (List.mem_of_getElem? (i := 5) rfl)) A_xX_47))
              have F_elements_r0_50 := F_elements_r0_47.other W50 (Or.inl (own_ne_arf E_r0_47 (hw _ (List.mem_of_getElem? (i := 5) rfl)) A_xX_47))
              have F_foundIn_r0_50 := F_foundIn_r0_47.other W50 (Or.inl (own_ne_arf E_r0_47 (hw _ (List.mem_of_getElem? (i := 5) rfl)) A_xX_47))
              have F_next_r0_50 := F_next_r0_47.other W50 (Or.inl (own_ne_arf E_r0_47 (hw _ (List.mem_of_getElem? (i := 5) rfl)) A_xX_47))
              have F_found_r0_50 := F_found_r0_47.other W50 (Or.inl (own_ne_arf E_r0_47 (hw _ (List.mem_of_getElem? (i := 5) rfl)) A_xX_47))
              have F_bucketShift_r0_50 := F_bucketShift_r0_47.other W50 (Or.inl (own_ne_arf E_r0_47 (hw _ (List.mem_of_getElem? (i := 5) rfl)) A_xX_47))
              have F_bucketStart_r0_50 := F_bucketStart_r0_47.other W50 (Or.inl (own_ne_arf E_r0_47 (hw _ (List.mem_of_getElem? (i := 5) rfl)) A_xX_47))
              have E_r0_50 := E_r0_47.wr W50
              have F_search_r0_50 := F_search_r0_47.other W50 (Or.inl (own_ne_arf E_r0_47 (hw _ (List.mem_of_getElem? (i := 5) rfl)) A_xX_47))
              have F_foundCount_r0_50 := F_foundCount_r0_47.other W50 (Or.inl (own_ne_arf E_r0_47 (hw _ (List.mem_of_getElem? (i := 5) rfl)) A_xX_47))
              have F_firstOnly_r0_50 := F_firstOnly_r0_47.other W50 (Or.inl (own_ne_arf E_r0_47 (hw _ (List.mem_of_getElem? (i := 5) rfl)) A_xX_47))
              have F_forRuns_r0_50 := F_forRuns_r0_47.other W50 (Or.inl (own_ne_arf E_r0_47 (hw _ (List.mem_of_getElem? (i := 5) rfl)) A_xX_47))
              have F_runsLength_r0_50 := F_runsLength_r0_47.other W50 (Or.inl (own_ne_arf E_r0_47 (hw _ (List.mem_of_getElem? (i := 5) rfl)) A_xX_47))
              have A_xN_50 := A_xN_47.other W50 ne_xN_xX
              have A_xF_50 := A_xF_47.other W50 ne_xF_xX
              have A_xD_50 := A_xD_47.other W50 (Ne.symm ne_xX_xD)
              have A_xB_50 := A_xB_47.other W50 (Ne.symm ne_xX_xB)
              have K50 := K47.wr W50 (Or.inl (List.mem_of_getElem? (i := 2) rfl))
              have N50 := Fr.snoc X50 N48 ge_xX
              have Z50 : n0 ≤ h50.size := Nat.le_trans Z47 (Keep.of_wr W50).1
              obtain ⟨f50, hf50⟩ : ∃ z, z = (own_set f34 (2 : Int32) (3 : Int32)) := ⟨_, rfl⟩
              rw [← hf50] at A_xX_50
              refine own_go (fun tg k => st50 tg k) ?_
              show own_Fin _ _ _ _ _ _ _ (T50.setTop (mkF m 80 #[.val (.ref r0), .val (.int p1), .val (.int p2), .val (.int (2 : Int32)), .val (.int (3 : Int32))] []))
              refine own_go (fun _ k => XS.iload X50.here hx rfl (hb hby d9_80) rfl k) ?_
              refine own_go (fun _ k => XS.istoreN X50.here hx rfl (hb hby d9_82) rfl (l' := #[.val (.ref r0), .val (.int p1), .val (.int p2), .val (.int (3 : Int32)), .val (.int (3 : Int32))]) rfl k) ?_
              show own_Fin _ _ _ _ _ _ _ (T50.setTop (mkF m 83 #[.val (.ref r0), .val (.int p1), .val (.int p2), .val (.int (3 : Int32)), .val (.int (3 : Int32))] []))
              refine own_go (fun _ k => XS.goto X50.here hx rfl (pc0 := 83) (pc' := 10) rfl (hb hby d9_83) (by decide) (by decide) k) ?_
              show own_Fin _ _ _ _ _ _ _ (T50.setTop (mkF m 10 #[.val (.ref r0), .val (.int p1), .val (.int p2), .val (.int (3 : Int32)), .val (.int (3 : Int32))] []))
              refine own_go (fun _ k => XS.iloadN X50.here hx rfl (hb hby d9_10) rfl k) ?_
              refine own_go (fun _ k => XS.aloadN X50.here hx rfl (hb hby d9_11) rfl rfl k) ?_
              obtain ⟨T51, X51, e51, st51⟩ := getF X50 hx hZ hown (host := "") (Or.inl (hw _ (List.mem_of_getElem? (i := 18) rfl))) Via.refl e50 F_numbers_r0_50 (g := (mkF m 12 #[.val (.ref r0), .val (.int p1), .val (.int p2), .val (.int (3 : Int32)), .val (.int (3 : Int32))] [(.ref r0), (.int (3 : Int32))])) rfl rfl (hb hby d9_12)
              refine own_go (fun tg k => st51 tg k) ?_
              show own_Fin _ _ _ _ _ _ _ (T51.setTop (mkF m 15 #[.val (.ref r0), .val (.int p1), .val (.int p2), .val (.int (3 : Int32)), .val (.int (3 : Int32))] [(.ref xN), (.int (3 : Int32))]))
              refine own_go (fun tg k => own_alen X51 hx hZ e51 A_xN_50 (g := (mkF m 15 #[.val (.ref r0), .val (.int p1), .val (.int p2), .val (.int (3 : Int32)), .val (.int (3 : Int32))] [(.ref xN), (.int (3 : Int32))])) rfl rfl (hb hby d9_15) tg k) ?_
              show own_Fin _ _ _ _ _ _ _ (T51.setTop (mkF m 16 #[.val (.ref r0), .val (.int p1), .val (.int p2), .val (.int (3 : Int32)), .val (.int (3 : Int32))] [(.int (3 : Int32)), (.int (3 : Int32))]))
              refine own_go (fun _ k => XS.icmpYes X51.here hx rfl (pc0 := 16) (pc' := 86) rfl (hb hby d9_16) rfl (flt (by decide)).2.1 (by decide) (by decide) k) ?_
              show own_Fin _ _ _ _ _ _ _ (T51.setTop (mkF m 86 #[.val (.ref r0), .val (.int p1), .val (.int p2), .val (.int (3 : Int32)), .val (.int (3 : Int32))] []))
              refine own_go (fun _ k => XS.aloadN X51.here hx rfl (hb hby d9_86) rfl rfl k) ?_
              refine own_go (fun _ k => XS.iloadN X51.here hx rfl (hb hby d9_87) rfl k) ?_
              obtain ⟨cq52, q52, q52'⟩ := E_r0_50.cell
              obtain ⟨_, _, ⟨T52, L52, k52, n52⟩, -, X52, ⟨Lc52, hQ52, l52, y52, z52⟩, st52⟩ := X51.privateBack hx (y := (⟨"com/example/reachability/reachability/CandidateList", "numberOf", "(I)I"⟩ : MethodName)) hown (mvT hZ (hw _ (List.mem_of_getElem? (i := 78) rfl))) (mvT hZ (hw _ (List.mem_of_getElem? (i := 79) rfl))) (own_selpriv (z := (⟨"com/example/reachability/reachability/CandidateList", "satisfied", "()Z"⟩ : MethodName)) rfl (mvT (args := #[]) hZ (hw _ (List.mem_of_getElem? (i := 45) rfl))) (Cond.privateMethod_at (mvP hZ (hw _ (List.mem_of_getElem? (i := 80) rfl)) (args := #[]))) (mvT hZ (hw _ (List.mem_of_getElem? (i := 79) rfl))) (by decide)) (Cond.privateMethod_at (mvP hZ (hw _ (List.mem_of_getElem? (i := 80) rfl)) (args := #[]))) (mvT hZ (hw _ (List.mem_of_getElem? (i := 81) rfl))) (by decide) (backOf (W := 0) (rm13 l Z a0 hw [] r0 (3 : Int32) xN gN h50 n0 Z50 F_numbers_r0_50 A_xN_50 (by decide)) hZ (hw _ (List.mem_of_getElem? (i := 81) rfl)) (hw _ (List.mem_of_getElem? (i := 6) rfl)) (by decide) (by decide)) (g := (mkF m 88 #[.val (.ref r0), .val (.int p1), .val (.int p2), .val (.int (3 : Int32)), .val (.int (3 : Int32))] [(.int (3 : Int32)), (.ref r0)])) rfl (by rw [hml]; rfl) (Steps.refl _) (a := r0) (by rw [e51]; exact q52) q52' (argsL := [(.int (3 : Int32))]) (rest := []) (lenOf own_pd428 rfl) rfl (by show 2 * 0 + _ ≤ _; exact Nat.le_of_eq rfl) (hb hby d9_88) (fun _ _ => ⟨rfl, e51, (by decide : 0 + 0 ≤ _), (by decide : 0 + 0 ≤ _)⟩)
              dsimp only [Pt.U, Pt.locs, Pt.cells, Pt.slots] at X52 l52 y52 z52 st52 hQ52
              replace y52 : 0 = k52 := y52.symm
              replace z52 : 0 = n52 := z52.symm
              subst y52 z52
              obtain ⟨rfl, N52q, e52⟩ := hQ52
              have N52 : Fr n0 L52 := by rw [l52]; exact Fr.app N50 N52q
              refine own_go (fun tg k => st52.trans k) ?_
              show own_Fin _ _ _ _ _ _ _ (T52.setTop (mkF m 91 #[.val (.ref r0), .val (.int p1), .val (.int p2), .val (.int (3 : Int32)), .val (.int (3 : Int32))] [(.int (own_f13 (3 : Int32) gN))]))
              refine own_ret X52 hx hlk Bd.returns rfl (Or.inl ⟨rfl, by simp, _, rfl⟩) (hb hby d9_91) (Nat.le_of_ble_eq_true rfl) (Nat.le_of_ble_eq_true rfl) ?_
              rw [e52]
              refine ⟨(own_lf_own_f9f_16 (p1 := p1) (p2 := p2) (sh := sh) (se := se) (fo := fo) (fr := fr) (rl := rl) (gN := gN) (gF := gF) (gX := gX) (gD := gD) (nB := nB) (gB := gB) hs3 hc6 hc21 hc24 hc37 hc40), N52, K50, ?_, ?_, ?_, ?_, ?_, ?_, ?_, E_r0_50, ?_, (by rw [← (own_lf_own_f9f_17 (p1 := p1) (p2 := p2) (sh := sh) (se := se) (fo := fo) (fr := fr) (rl := rl) (gN := gN) (gF := gF) (gX := gX) (gD := gD) (nB := nB) (gB := gB) hs3 hc6 hc21 hc24 hc37 hc40)]; exact F_foundCount_r0_50), ?_, ?_, ?_, (by rw [← (own_lf_own_f9f_18 (p1 := p1) (p2 := p2) (sh := sh) (se := se) (fo := fo) (fr := fr) (rl := rl) (gN := gN) (gF := gF) (gX := gX) (gD := gD) (nB := nB) (gB := gB) hf11 hf27 hf43 hs3 hc6 hc21 hc24 hc37 hc40)]; exact A_xF_50), (by rw [← (own_lf_own_f9f_19 (p1 := p1) (p2 := p2) (sh := sh) (se := se) (fo := fo) (fr := fr) (rl := rl) (gN := gN) (gF := gF) (gX := gX) (gD := gD) (nB := nB) (gB := gB) hf18 hf34 hf50 hs3 hc6 hc21 hc24 hc37 hc40)]; exact A_xX_50), (by rw [← (own_lf_own_f9f_20 (p1 := p1) (p2 := p2) (sh := sh) (se := se) (fo := fo) (fr := fr) (rl := rl) (gN := gN) (gF := gF) (gX := gX) (gD := gD) (nB := nB) (gB := gB) hf15 hf31 hf47 hs3 hc6 hc21 hc24 hc37 hc40)]; exact A_xD_50)⟩
              all_goals try subst hf50
              all_goals try subst hf47
              all_goals try subst hf43
              all_goals try subst hf34
              all_goals try subst hf31
              all_goals try subst hf27
              all_goals try subst hf18
              all_goals try subst hf15
              all_goals try subst hf11
              · first | (exact F_numbers_r0_50) | (simp only [if_pos hs3, if_neg hc6, if_neg hc21, if_pos hc24, if_neg hc37, if_pos hc40]; exact F_numbers_r0_50)
              · first | (exact F_elements_r0_50) | (simp only [if_pos hs3, if_neg hc6, if_neg hc21, if_pos hc24, if_neg hc37, if_pos hc40]; exact F_elements_r0_50)
              · first | (exact F_foundIn_r0_50) | (simp only [if_pos hs3, if_neg hc6, if_neg hc21, if_pos hc24, if_neg hc37, if_pos hc40]; exact F_foundIn_r0_50)
              · first | (exact F_next_r0_50) | (simp only [if_pos hs3, if_neg hc6, if_neg hc21, if_pos hc24, if_neg hc37, if_pos hc40]; exact F_next_r0_50)
              · first | (exact F_found_r0_50) | (simp only [if_pos hs3, if_neg hc6, if_neg hc21, if_pos hc24, if_neg hc37, if_pos hc40]; exact F_found_r0_50)
              · first | (exact F_bucketShift_r0_50) | (simp only [if_pos hs3, if_neg hc6, if_neg hc21, if_pos hc24, if_neg hc37, if_pos hc40]; exact F_bucketShift_r0_50)
              · first | (exact F_bucketStart_r0_50) | (simp only [if_pos hs3, if_neg hc6, if_neg hc21, if_pos hc24, if_neg hc37, if_pos hc40]; exact F_bucketStart_r0_50)
              · first | (exact F_search_r0_50) | (simp only [if_pos hs3, if_neg hc6, if_neg hc21, if_pos hc24, if_neg hc37, if_pos hc40]; exact F_search_r0_50)
              · first | (exact F_firstOnly_r0_50) | (simp only [if_pos hs3, if_neg hc6, if_neg hc21, if_pos hc24, if_neg hc37, if_pos hc40]; exact F_firstOnly_r0_50)
              · first | (exact F_forRuns_r0_50) | (simp only [if_pos hs3, if_neg hc6, if_neg hc21, if_pos hc24, if_neg hc37, if_pos hc40]; exact F_forRuns_r0_50)
              · first | (exact F_runsLength_r0_50) | (simp only [if_pos hs3, if_neg hc6, if_neg hc21, if_pos hc24, if_neg hc37, if_pos hc40]; exact F_runsLength_r0_50)
            · refine own_go (fun _ k => XS.ifYes X39.here hx rfl (pc0 := 33) (pc' := 86) rfl (hb hby d9_33) rfl ((if0 _ _).trans (feq hc40).2) (by decide) (by decide) k) ?_
              show own_Fin _ _ _ _ _ _ _ (T39.setTop (mkF m 86 #[.val (.ref r0), .val (.int p1), .val (.int p2), .val (.int (2 : Int32)), .val (.int (2 : Int32))] []))
              refine own_go (fun _ k => XS.aloadN X39.here hx rfl (hb hby d9_86) rfl rfl k) ?_
              refine own_go (fun _ k => XS.iloadN X39.here hx rfl (hb hby d9_87) rfl k) ?_
              obtain ⟨cq53, q53, q53'⟩ := E_r0_34.cell
              obtain ⟨_, _, ⟨T53, L53, k53, n53⟩, -, X53, ⟨Lc53, hQ53, l53, y53, z53⟩, st53⟩ := X39.privateBack hx (y := (⟨"com/example/reachability/reachability/CandidateList", "numberOf", "(I)I"⟩ : MethodName)) hown (mvT hZ (hw _ (List.mem_of_getElem? (i := 78) rfl))) (mvT hZ (hw _ (List.mem_of_getElem? (i := 79) rfl))) (own_selpriv (z := (⟨"com/example/reachability/reachability/CandidateList", "satisfied", "()Z"⟩ : MethodName)) rfl (mvT (args := #[]) hZ (hw _ (List.mem_of_getElem? (i := 45) rfl))) (Cond.privateMethod_at (mvP hZ (hw _ (List.mem_of_getElem? (i := 80) rfl)) (args := #[]))) (mvT hZ (hw _ (List.mem_of_getElem? (i := 79) rfl))) (by decide)) (Cond.privateMethod_at (mvP hZ (hw _ (List.mem_of_getElem? (i := 80) rfl)) (args := #[]))) (mvT hZ (hw _ (List.mem_of_getElem? (i := 81) rfl))) (by decide) (backOf (W := 0) (rm13 l Z a0 hw [] r0 (2 : Int32) xN gN h34 n0 Z34 F_numbers_r0_34 A_xN_34 (by decide)) hZ (hw _ (List.mem_of_getElem? (i := 81) rfl)) (hw _ (List.mem_of_getElem? (i := 6) rfl)) (by decide) (by decide)) (g := (mkF m 88 #[.val (.ref r0), .val (.int p1), .val (.int p2), .val (.int (2 : Int32)), .val (.int (2 : Int32))] [(.int (2 : Int32)), (.ref r0)])) rfl (by rw [hml]; rfl) (Steps.refl _) (a := r0) (by rw [e39]; exact q53) q53' (argsL := [(.int (2 : Int32))]) (rest := []) (lenOf own_pd428 rfl) rfl (by show 2 * 0 + _ ≤ _; exact Nat.le_of_eq rfl) (hb hby d9_88) (fun _ _ => ⟨rfl, e39, (by decide : 0 + 0 ≤ _), (by decide : 0 + 0 ≤ _)⟩)
              dsimp only [Pt.U, Pt.locs, Pt.cells, Pt.slots] at X53 l53 y53 z53 st53 hQ53
              replace y53 : 0 = k53 := y53.symm
              replace z53 : 0 = n53 := z53.symm
              subst y53 z53
              obtain ⟨rfl, N53q, e53⟩ := hQ53
              have N53 : Fr n0 L53 := by rw [l53]; exact Fr.app N39 N53q
              refine own_go (fun tg k => st53.trans k) ?_
              show own_Fin _ _ _ _ _ _ _ (T53.setTop (mkF m 91 #[.val (.ref r0), .val (.int p1), .val (.int p2), .val (.int (2 : Int32)), .val (.int (2 : Int32))] [(.int (own_f13 (2 : Int32) gN))]))
              refine own_ret X53 hx hlk Bd.returns rfl (Or.inl ⟨rfl, by simp, _, rfl⟩) (hb hby d9_91) (Nat.le_of_ble_eq_true rfl) (Nat.le_of_ble_eq_true rfl) ?_
              rw [e53]
              refine ⟨(own_lf_own_f9f_21 (p1 := p1) (p2 := p2) (sh := sh) (se := se) (fo := fo) (fr := fr) (rl := rl) (gN := gN) (gF := gF) (gX := gX) (gD := gD) (nB := nB) (gB := gB) hs3 hc6 hc21 hc24 hc37 hc40), N53, K34, ?_, ?_, ?_, ?_, ?_, ?_, ?_, E_r0_34, ?_, (by rw [← (own_lf_own_f9f_22 (p1 := p1) (p2 := p2) (sh := sh) (se := se) (fo := fo) (fr := fr) (rl := rl) (gN := gN) (gF := gF) (gX := gX) (gD := gD) (nB := nB) (gB := gB) hs3 hc6 hc21 hc24 hc37 hc40)]; exact F_foundCount_r0_34), ?_, ?_, ?_, (by rw [← (own_lf_own_f9f_23 (p1 := p1) (p2 := p2) (sh := sh) (se := se) (fo := fo) (fr := fr) (rl := rl) (gN := gN) (gF := gF) (gX := gX) (gD := gD) (nB := nB) (gB := gB) hf11 hf27 hs3 hc6 hc21 hc24 hc37 hc40)]; exact A_xF_34), (by rw [← (own_lf_own_f9f_24 (p1 := p1) (p2 := p2) (sh := sh) (se := se) (fo := fo) (fr := fr) (rl := rl) (gN := gN) (gF := gF) (gX := gX) (gD := gD) (nB := nB) (gB := gB) hf18 hf34 hs3 hc6 hc21 hc24 hc37 hc40)]; exact A_xX_34), (by rw [← (own_lf_own_f9f_25 (p1 := p1) (p2 := p2) (sh := sh) (se := se) (fo := fo) (fr := fr) (rl := rl) (gN := gN) (gF := gF) (gX := gX) (gD := gD) (nB := nB) (gB := gB) hf15 hf31 hs3 hc6 hc21 hc24 hc37 hc40)]; exact A_xD_34)⟩
              all_goals try subst hf34
              all_goals try subst hf31
              all_goals try subst hf27
              all_goals try subst hf18
              all_goals try subst hf15
              all_goals try subst hf11
              · first | (exact F_numbers_r0_34) | (simp only [if_pos hs3, if_neg hc6, if_neg hc21, if_pos hc24, if_neg hc37, if_neg hc40]; exact F_numbers_r0_34)
              · first | (exact F_elements_r0_34) | (simp only [if_pos hs3, if_neg hc6, if_neg hc21, if_pos hc24, if_neg hc37, if_neg hc40]; exact F_elements_r0_34)
              · first | (exact F_foundIn_r0_34) | (simp only [if_pos hs3, if_neg hc6, if_neg hc21, if_pos hc24, if_neg hc37, if_neg hc40]; exact F_foundIn_r0_34)
              · first | (exact F_next_r0_34) | (simp only [if_pos hs3, if_neg hc6, if_neg hc21, if_pos hc24, if_neg hc37, if_neg hc40]; exact F_next_r0_34)
              · first | (exact F_found_r0_34) | (simp only [if_pos hs3, if_neg hc6, if_neg hc21, if_pos hc24, if_neg hc37, if_neg hc40]; exact F_found_r0_34)
              · first | (exact F_bucketShift_r0_34) | (simp only [if_pos hs3, if_neg hc6, if_neg hc21, if_pos hc24, if_neg hc37, if_neg hc40]; exact F_bucketShift_r0_34)
              · first | (exact F_bucketStart_r0_34) | (simp only [if_pos hs3, if_neg hc6, if_neg hc21, if_pos hc24, if_neg hc37, if_neg hc40]; exact F_bucketStart_r0_34)
              · first | (exact F_search_r0_34) | (simp only [if_pos hs3, if_neg hc6, if_neg hc21, if_pos hc24, if_neg hc37, if_neg hc40]; exact F_search_r0_34)
              · first | (exact F_firstOnly_r0_34) | (simp only [if_pos hs3, if_neg hc6, if_neg hc21, if_pos hc24, if_neg hc37, if_neg hc40]; exact F_firstOnly_r0_34)
              · first | (exact F_forRuns_r0_34) | (simp only [if_pos hs3, if_neg hc6, if_neg hc21, if_pos hc24, if_neg hc37, if_neg hc40]; exact F_forRuns_r0_34)
              · first | (exact F_runsLength_r0_34) | (simp only [if_pos hs3, if_neg hc6, if_neg hc21, if_pos hc24, if_neg hc37, if_neg hc40]; exact F_runsLength_r0_34)
        · refine own_go (fun _ k => XS.ifYes X23.here hx rfl (pc0 := 33) (pc' := 86) rfl (hb hby d9_33) rfl ((if0 _ _).trans (feq hc24).2) (by decide) (by decide) k) ?_
          show own_Fin _ _ _ _ _ _ _ (T23.setTop (mkF m 86 #[.val (.ref r0), .val (.int p1), .val (.int p2), .val (.int (1 : Int32)), .val (.int (1 : Int32))] []))
          refine own_go (fun _ k => XS.aloadN X23.here hx rfl (hb hby d9_86) rfl rfl k) ?_
          refine own_go (fun _ k => XS.iloadN X23.here hx rfl (hb hby d9_87) rfl k) ?_
          obtain ⟨cq54, q54, q54'⟩ := E_r0_18.cell
          obtain ⟨_, _, ⟨T54, L54, k54, n54⟩, -, X54, ⟨Lc54, hQ54, l54, y54, z54⟩, st54⟩ := X23.privateBack hx (y := (⟨"com/example/reachability/reachability/CandidateList", "numberOf", "(I)I"⟩ : MethodName)) hown (mvT hZ (hw _ (List.mem_of_getElem? (i := 78) rfl))) (mvT hZ (hw _ (List.mem_of_getElem? (i := 79) rfl))) (own_selpriv (z := (⟨"com/example/reachability/reachability/CandidateList", "satisfied", "()Z"⟩ : MethodName)) rfl (mvT (args := #[]) hZ (hw _ (List.mem_of_getElem? (i := 45) rfl))) (Cond.privateMethod_at (mvP hZ (hw _ (List.mem_of_getElem? (i := 80) rfl)) (args := #[]))) (mvT hZ (hw _ (List.mem_of_getElem? (i := 79) rfl))) (by decide)) (Cond.privateMethod_at (mvP hZ (hw _ (List.mem_of_getElem? (i := 80) rfl)) (args := #[]))) (mvT hZ (hw _ (List.mem_of_getElem? (i := 81) rfl))) (by decide) (backOf (W := 0) (rm13 l Z a0 hw [] r0 (1 : Int32) xN gN h18 n0 Z18 F_numbers_r0_18 A_xN_18 (by decide)) hZ (hw _ (List.mem_of_getElem? (i := 81) rfl)) (hw _ (List.mem_of_getElem? (i := 6) rfl)) (by decide) (by decide)) (g := (mkF m 88 #[.val (.ref r0), .val (.int p1), .val (.int p2), .val (.int (1 : Int32)), .val (.int (1 : Int32))] [(.int (1 : Int32)), (.ref r0)])) rfl (by rw [hml]; rfl) (Steps.refl _) (a := r0) (by rw [e23]; exact q54) q54' (argsL := [(.int (1 : Int32))]) (rest := []) (lenOf own_pd428 rfl) rfl (by show 2 * 0 + _ ≤ _; exact Nat.le_of_eq rfl) (hb hby d9_88) (fun _ _ => ⟨rfl, e23, (by decide : 0 + 0 ≤ _), (by decide : 0 + 0 ≤ _)⟩)
          dsimp only [Pt.U, Pt.locs, Pt.cells, Pt.slots] at X54 l54 y54 z54 st54 hQ54
          replace y54 : 0 = k54 := y54.symm
          replace z54 : 0 = n54 := z54.symm
          subst y54 z54
          obtain ⟨rfl, N54q, e54⟩ := hQ54
          have N54 : Fr n0 L54 := by rw [l54]; exact Fr.app N23 N54q
          refine own_go (fun tg k => st54.trans k) ?_
          show own_Fin _ _ _ _ _ _ _ (T54.setTop (mkF m 91 #[.val (.ref r0), .val (.int p1), .val (.int p2), .val (.int (1 : Int32)), .val (.int (1 : Int32))] [(.int (own_f13 (1 : Int32) gN))]))
          refine own_ret X54 hx hlk Bd.returns rfl (Or.inl ⟨rfl, by simp, _, rfl⟩) (hb hby d9_91) (Nat.le_of_ble_eq_true rfl) (Nat.le_of_ble_eq_true rfl) ?_
          rw [e54]
          refine ⟨(own_lf_own_f9f_26 (p1 := p1) (p2 := p2) (sh := sh) (se := se) (fo := fo) (fr := fr) (rl := rl) (gN := gN) (gF := gF) (gX := gX) (gD := gD) (nB := nB) (gB := gB) hs3 hc6 hc21 hc24), N54, K18, ?_, ?_, ?_, ?_, ?_, ?_, ?_, E_r0_18, ?_, (by rw [← (own_lf_own_f9f_27 (p1 := p1) (p2 := p2) (sh := sh) (se := se) (fo := fo) (fr := fr) (rl := rl) (gN := gN) (gF := gF) (gX := gX) (gD := gD) (nB := nB) (gB := gB) hs3 hc6 hc21 hc24)]; exact F_foundCount_r0_18), ?_, ?_, ?_, (by rw [← (own_lf_own_f9f_28 (p1 := p1) (p2 := p2) (sh := sh) (se := se) (fo := fo) (fr := fr) (rl := rl) (gN := gN) (gF := gF) (gX := gX) (gD := gD) (nB := nB) (gB := gB) hf11 hs3 hc6 hc21 hc24)]; exact A_xF_18), (by rw [← (own_lf_own_f9f_29 (p1 := p1) (p2 := p2) (sh := sh) (se := se) (fo := fo) (fr := fr) (rl := rl) (gN := gN) (gF := gF) (gX := gX) (gD := gD) (nB := nB) (gB := gB) hf18 hs3 hc6 hc21 hc24)]; exact A_xX_18), (by rw [← (own_lf_own_f9f_30 (p1 := p1) (p2 := p2) (sh := sh) (se := se) (fo := fo) (fr := fr) (rl := rl) (gN := gN) (gF := gF) (gX := gX) (gD := gD) (nB := nB) (gB := gB) hf15 hs3 hc6 hc21 hc24)]; exact A_xD_18)⟩
          all_goals try subst hf18
          all_goals try subst hf15
          all_goals try subst hf11
          · first | (exact F_numbers_r0_18) | (simp only [if_pos hs3, if_neg hc6, if_neg hc21, if_neg hc24]; exact F_numbers_r0_18)
          · first | (exact F_elements_r0_18) | (simp only [if_pos hs3, if_neg hc6, if_neg hc21, if_neg hc24]; exact F_elements_r0_18)
          · first | (exact F_foundIn_r0_18) | (simp only [if_pos hs3, if_neg hc6, if_neg hc21, if_neg hc24]; exact F_foundIn_r0_18)
          · first | (exact F_next_r0_18) | (simp only [if_pos hs3, if_neg hc6, if_neg hc21, if_neg hc24]; exact F_next_r0_18)
          · first | (exact F_found_r0_18) | (simp only [if_pos hs3, if_neg hc6, if_neg hc21, if_neg hc24]; exact F_found_r0_18)
          · first | (exact F_bucketShift_r0_18) | (simp only [if_pos hs3, if_neg hc6, if_neg hc21, if_neg hc24]; exact F_bucketShift_r0_18)
          · first | (exact F_bucketStart_r0_18) | (simp only [if_pos hs3, if_neg hc6, if_neg hc21, if_neg hc24]; exact F_bucketStart_r0_18)
          · first | (exact F_search_r0_18) | (simp only [if_pos hs3, if_neg hc6, if_neg hc21, if_neg hc24]; exact F_search_r0_18)
          · first | (exact F_firstOnly_r0_18) | (simp only [if_pos hs3, if_neg hc6, if_neg hc21, if_neg hc24]; exact F_firstOnly_r0_18)
          · first | (exact F_forRuns_r0_18) | (simp only [if_pos hs3, if_neg hc6, if_neg hc21, if_neg hc24]; exact F_forRuns_r0_18)
          · first | (exact F_runsLength_r0_18) | (simp only [if_pos hs3, if_neg hc6, if_neg hc21, if_neg hc24]; exact F_runsLength_r0_18)
  · by_cases hs55 : (own_f10 p1 sh nB gB gN) = (1 : Int32)
    · try rw [hs55]
      show own_Fin _ _ _ _ _ _ _ (T2.setTop (mkF m 9 #[.val (.ref r0), .val (.int p1), .val (.int p2), .unset, .unset] [(.int (1 : Int32))]))
      refine own_go (fun _ k => XS.istoreN X2.here hx rfl (hb hby d9_9) rfl (l' := #[.val (.ref r0), .val (.int p1), .val (.int p2), .val (.int (1 : Int32)), .unset]) rfl k) ?_
      show own_Fin _ _ _ _ _ _ _ (T2.setTop (mkF m 10 #[.val (.ref r0), .val (.int p1), .val (.int p2), .val (.int (1 : Int32)), .unset] []))
      refine own_go (fun _ k => XS.iloadN X2.here hx rfl (hb hby d9_10) rfl k) ?_
      refine own_go (fun _ k => XS.aloadN X2.here hx rfl (hb hby d9_11) rfl rfl k) ?_
      obtain ⟨T56, X56, e56, st56⟩ := getF X2 hx hZ hown (host := "") (Or.inl (hw _ (List.mem_of_getElem? (i := 18) rfl))) Via.refl e2 F_numbers_r0_0 (g := (mkF m 12 #[.val (.ref r0), .val (.int p1), .val (.int p2), .val (.int (1 : Int32)), .unset] [(.ref r0), (.int (1 : Int32))])) rfl rfl (hb hby d9_12)
      refine own_go (fun tg k => st56 tg k) ?_
      show own_Fin _ _ _ _ _ _ _ (T56.setTop (mkF m 15 #[.val (.ref r0), .val (.int p1), .val (.int p2), .val (.int (1 : Int32)), .unset] [(.ref xN), (.int (1 : Int32))]))
      refine own_go (fun tg k => own_alen X56 hx hZ e56 A_xN_0 (g := (mkF m 15 #[.val (.ref r0), .val (.int p1), .val (.int p2), .val (.int (1 : Int32)), .unset] [(.ref xN), (.int (1 : Int32))])) rfl rfl (hb hby d9_15) tg k) ?_
      show own_Fin _ _ _ _ _ _ _ (T56.setTop (mkF m 16 #[.val (.ref r0), .val (.int p1), .val (.int p2), .val (.int (1 : Int32)), .unset] [(.int (3 : Int32)), (.int (1 : Int32))]))
      refine own_go (fun _ k => XS.icmpNo X56.here hx rfl (hb hby d9_16) rfl (tlt (by decide)).2.1 k) ?_
      show own_Fin _ _ _ _ _ _ _ (T56.setTop (mkF m 19 #[.val (.ref r0), .val (.int p1), .val (.int p2), .val (.int (1 : Int32)), .unset] []))
      refine own_go (fun _ k => XS.aloadN X56.here hx rfl (hb hby d9_19) rfl rfl k) ?_
      obtain ⟨T57, X57, e57, st57⟩ := getF X56 hx hZ hown (host := "") (Or.inl (hw _ (List.mem_of_getElem? (i := 18) rfl))) Via.refl e56 F_numbers_r0_0 (g := (mkF m 20 #[.val (.ref r0), .val (.int p1), .val (.int p2), .val (.int (1 : Int32)), .unset] [(.ref r0)])) rfl rfl (hb hby d9_20)
      refine own_go (fun tg k => st57 tg k) ?_
      show own_Fin _ _ _ _ _ _ _ (T57.setTop (mkF m 23 #[.val (.ref r0), .val (.int p1), .val (.int p2), .val (.int (1 : Int32)), .unset] [(.ref xN)]))
      refine own_go (fun _ k => XS.iloadN X57.here hx rfl (hb hby d9_23) rfl k) ?_
      refine own_go (fun tg k => own_iaload X57 hx hZ e57 A_xN_0 (j := (1 : Int32)) ⟨by decide, by decide⟩ (x := (gN 1)) rfl (g := (mkF m 24 #[.val (.ref r0), .val (.int p1), .val (.int p2), .val (.int (1 : Int32)), .unset] [(.int (1 : Int32)), (.ref xN)])) rfl rfl (hb hby d9_24) tg k) ?_
      show own_Fin _ _ _ _ _ _ _ (T57.setTop (mkF m 25 #[.val (.ref r0), .val (.int p1), .val (.int p2), .val (.int (1 : Int32)), .unset] [(.int (gN 1))]))
      refine own_go (fun _ k => XS.iloadN X57.here hx rfl (hb hby d9_25) rfl k) ?_
      show own_Fin _ _ _ _ _ _ _ (T57.setTop (mkF m 26 #[.val (.ref r0), .val (.int p1), .val (.int p2), .val (.int (1 : Int32)), .unset] [(.int p2), (.int (gN 1))]))
      by_cases hc58 : p2 < (gN 1)
      · refine own_go (fun _ k => XS.icmpYes X57.here hx rfl (pc0 := 26) (pc' := 86) rfl (hb hby d9_26) rfl (tlt hc58).2.2.1 (by decide) (by decide) k) ?_
        show own_Fin _ _ _ _ _ _ _ (T57.setTop (mkF m 86 #[.val (.ref r0), .val (.int p1), .val (.int p2), .val (.int (1 : Int32)), .unset] []))
        refine own_go (fun _ k => XS.aloadN X57.here hx rfl (hb hby d9_86) rfl rfl k) ?_
        refine own_go (fun _ k => XS.iloadN X57.here hx rfl (hb hby d9_87) rfl k) ?_
        obtain ⟨cq59, q59, q59'⟩ := E_r0_0.cell
        obtain ⟨_, _, ⟨T59, L59, k59, n59⟩, -, X59, ⟨Lc59, hQ59, l59, y59, z59⟩, st59⟩ := X57.privateBack hx (y := (⟨"com/example/reachability/reachability/CandidateList", "numberOf", "(I)I"⟩ : MethodName)) hown (mvT hZ (hw _ (List.mem_of_getElem? (i := 78) rfl))) (mvT hZ (hw _ (List.mem_of_getElem? (i := 79) rfl))) (own_selpriv (z := (⟨"com/example/reachability/reachability/CandidateList", "satisfied", "()Z"⟩ : MethodName)) rfl (mvT (args := #[]) hZ (hw _ (List.mem_of_getElem? (i := 45) rfl))) (Cond.privateMethod_at (mvP hZ (hw _ (List.mem_of_getElem? (i := 80) rfl)) (args := #[]))) (mvT hZ (hw _ (List.mem_of_getElem? (i := 79) rfl))) (by decide)) (Cond.privateMethod_at (mvP hZ (hw _ (List.mem_of_getElem? (i := 80) rfl)) (args := #[]))) (mvT hZ (hw _ (List.mem_of_getElem? (i := 81) rfl))) (by decide) (backOf (W := 0) (rm13 l Z a0 hw [] r0 (1 : Int32) xN gN h0 n0 Z0 F_numbers_r0_0 A_xN_0 (by decide)) hZ (hw _ (List.mem_of_getElem? (i := 81) rfl)) (hw _ (List.mem_of_getElem? (i := 6) rfl)) (by decide) (by decide)) (g := (mkF m 88 #[.val (.ref r0), .val (.int p1), .val (.int p2), .val (.int (1 : Int32)), .unset] [(.int (1 : Int32)), (.ref r0)])) rfl (by rw [hml]; rfl) (Steps.refl _) (a := r0) (by rw [e57]; exact q59) q59' (argsL := [(.int (1 : Int32))]) (rest := []) (lenOf own_pd428 rfl) rfl (by show 2 * 0 + _ ≤ _; exact Nat.le_of_eq rfl) (hb hby d9_88) (fun _ _ => ⟨rfl, e57, (by decide : 0 + 0 ≤ _), (by decide : 0 + 0 ≤ _)⟩)
        dsimp only [Pt.U, Pt.locs, Pt.cells, Pt.slots] at X59 l59 y59 z59 st59 hQ59
        replace y59 : 0 = k59 := y59.symm
        replace z59 : 0 = n59 := z59.symm
        subst y59 z59
        obtain ⟨rfl, N59q, e59⟩ := hQ59
        have N59 : Fr n0 L59 := by rw [l59]; exact Fr.app N2 N59q
        refine own_go (fun tg k => st59.trans k) ?_
        show own_Fin _ _ _ _ _ _ _ (T59.setTop (mkF m 91 #[.val (.ref r0), .val (.int p1), .val (.int p2), .val (.int (1 : Int32)), .unset] [(.int (own_f13 (1 : Int32) gN))]))
        refine own_ret X59 hx hlk Bd.returns rfl (Or.inl ⟨rfl, by simp, _, rfl⟩) (hb hby d9_91) (Nat.le_of_ble_eq_true rfl) (Nat.le_of_ble_eq_true rfl) ?_
        rw [e59]
        refine ⟨(own_lf_own_f9f_31 (p1 := p1) (p2 := p2) (sh := sh) (se := se) (fo := fo) (fr := fr) (rl := rl) (gN := gN) (gF := gF) (gX := gX) (gD := gD) (nB := nB) (gB := gB) hs3 hs55 hc58), N59, K0, ?_, ?_, ?_, ?_, ?_, ?_, ?_, E_r0_0, ?_, (by rw [← (own_lf_own_f9f_32 (p1 := p1) (p2 := p2) (sh := sh) (se := se) (fo := fo) (fr := fr) (rl := rl) (gN := gN) (gF := gF) (gX := gX) (gD := gD) (nB := nB) (gB := gB) hs3 hs55 hc58)]; exact F_foundCount_r0_0), ?_, ?_, ?_, (by rw [← (own_lf_own_f9f_33 (p1 := p1) (p2 := p2) (sh := sh) (se := se) (fo := fo) (fr := fr) (rl := rl) (gN := gN) (gF := gF) (gX := gX) (gD := gD) (nB := nB) (gB := gB) hs3 hs55 hc58)]; exact A_xF_0), (by rw [← (own_lf_own_f9f_34 (p1 := p1) (p2 := p2) (sh := sh) (se := se) (fo := fo) (fr := fr) (rl := rl) (gN := gN) (gF := gF) (gX := gX) (gD := gD) (nB := nB) (gB := gB) hs3 hs55 hc58)]; exact A_xX_0), (by rw [← (own_lf_own_f9f_35 (p1 := p1) (p2 := p2) (sh := sh) (se := se) (fo := fo) (fr := fr) (rl := rl) (gN := gN) (gF := gF) (gX := gX) (gD := gD) (nB := nB) (gB := gB) hs3 hs55 hc58)]; exact A_xD_0)⟩
        · first | (exact F_numbers_r0_0) | (simp only [if_neg hs3, if_pos hs55, if_pos hc58]; exact F_numbers_r0_0)
        · first | (exact F_elements_r0_0) | (simp only [if_neg hs3, if_pos hs55, if_pos hc58]; exact F_elements_r0_0)
        · first | (exact F_foundIn_r0_0) | (simp only [if_neg hs3, if_pos hs55, if_pos hc58]; exact F_foundIn_r0_0)
        · first | (exact F_next_r0_0) | (simp only [if_neg hs3, if_pos hs55, if_pos hc58]; exact F_next_r0_0)
        · first | (exact F_found_r0_0) | (simp only [if_neg hs3, if_pos hs55, if_pos hc58]; exact F_found_r0_0)
        · first | (exact F_bucketShift_r0_0) | (simp only [if_neg hs3, if_pos hs55, if_pos hc58]; exact F_bucketShift_r0_0)
        · first | (exact F_bucketStart_r0_0) | (simp only [if_neg hs3, if_pos hs55, if_pos hc58]; exact F_bucketStart_r0_0)
        · first | (exact F_search_r0_0) | (simp only [if_neg hs3, if_pos hs55, if_pos hc58]; exact F_search_r0_0)
        · first | (exact F_firstOnly_r0_0) | (simp only [if_neg hs3, if_pos hs55, if_pos hc58]; exact F_firstOnly_r0_0)
        · first | (exact F_forRuns_r0_0) | (simp only [if_neg hs3, if_pos hs55, if_pos hc58]; exact F_forRuns_r0_0)
        · first | (exact F_runsLength_r0_0) | (simp only [if_neg hs3, if_pos hs55, if_pos hc58]; exact F_runsLength_r0_0)
      · refine own_go (fun _ k => XS.icmpNo X57.here hx rfl (hb hby d9_26) rfl (flt hc58).2.2.1 k) ?_
        show own_Fin _ _ _ _ _ _ _ (T57.setTop (mkF m 29 #[.val (.ref r0), .val (.int p1), .val (.int p2), .val (.int (1 : Int32)), .unset] []))
        refine own_go (fun _ k => XS.aloadN X57.here hx rfl (hb hby d9_29) rfl rfl k) ?_
        obtain ⟨cq60, kq60, q60a, q60b, q60c⟩ := isOf hZ e57 E_r0_0
        obtain ⟨_, _, ⟨T60, L60, k60, n60⟩, -, X60, ⟨Lc60, hQ60, l60, y60, z60⟩, st60⟩ := X57.virtualBack hx (y := (⟨"com/example/reachability/reachability/CandidateList", "satisfied", "()Z"⟩ : MethodName)) (z := (⟨"com/example/reachability/reachability/CandidateList", "satisfied", "()Z"⟩ : MethodName)) hown (mvT hZ (hw _ (List.mem_of_getElem? (i := 82) rfl))) (mvT hZ (hw _ (List.mem_of_getElem? (i := 43) rfl))) (notFace_of_selects (args := #[]) (mvT hZ (hw _ (List.mem_of_getElem? (i := 45) rfl)))) (mvT hZ (hw _ (List.mem_of_getElem? (i := 45) rfl))) (mvT hZ (hw _ (List.mem_of_getElem? (i := 44) rfl))) (by decide) (backOf (W := 0) (rm7 l Z a0 hw [] r0 fo (0 : Int32) h0 n0 Z0 F_firstOnly_r0_0 F_foundCount_r0_0) hZ (hw _ (List.mem_of_getElem? (i := 46) rfl)) (hw _ (List.mem_of_getElem? (i := 6) rfl)) (by decide) (by decide)) q60a q60c (g := (mkF m 30 #[.val (.ref r0), .val (.int p1), .val (.int p2), .val (.int (1 : Int32)), .unset] [(.ref r0)])) rfl (by rw [hml]; rfl) (Steps.refl _) (argsL := []) (rest := []) (lenOf own_pd429 rfl) rfl (by show 2 * 0 + _ ≤ _; exact Nat.le_of_eq rfl) (hb hby d9_30) (fun _ _ => ⟨rfl, e57, (by decide : 0 + 0 ≤ _), (by decide : 0 + 0 ≤ _)⟩)
        dsimp only [Pt.U, Pt.locs, Pt.cells, Pt.slots] at X60 l60 y60 z60 st60 hQ60
        replace y60 : 0 = k60 := y60.symm
        replace z60 : 0 = n60 := z60.symm
        subst y60 z60
        obtain ⟨rfl, N60q, e60⟩ := hQ60
        have N60 : Fr n0 L60 := by rw [l60]; exact Fr.app N2 N60q
        refine own_go (fun tg k => st60.trans k) ?_
        show own_Fin _ _ _ _ _ _ _ (T60.setTop (mkF m 33 #[.val (.ref r0), .val (.int p1), .val (.int p2), .val (.int (1 : Int32)), .unset] [(.int (own_f7 fo (0 : Int32)))]))
        have hc33 : (own_f7 fo (0 : Int32)) = (0 : Int32) := own_sat0 _
        refine own_go (fun _ k => XS.ifNo X60.here hx rfl (hb hby d9_33) rfl ((if0 _ _).trans (teq hc33).2) k) ?_
        show own_Fin _ _ _ _ _ _ _ (T60.setTop (mkF m 36 #[.val (.ref r0), .val (.int p1), .val (.int p2), .val (.int (1 : Int32)), .unset] []))
        refine own_go (fun _ k => XS.aloadN X60.here hx rfl (hb hby d9_36) rfl rfl k) ?_
        obtain ⟨T61, X61, e61, st61⟩ := getF X60 hx hZ hown (host := "") (Or.inl (hw _ (List.mem_of_getElem? (i := 22) rfl))) Via.refl e60 F_foundIn_r0_0 (g := (mkF m 37 #[.val (.ref r0), .val (.int p1), .val (.int p2), .val (.int (1 : Int32)), .unset] [(.ref r0)])) rfl rfl (hb hby d9_37)
        refine own_go (fun tg k => st61 tg k) ?_
        show own_Fin _ _ _ _ _ _ _ (T61.setTop (mkF m 40 #[.val (.ref r0), .val (.int p1), .val (.int p2), .val (.int (1 : Int32)), .unset] [(.ref xF)]))
        refine own_go (fun _ k => XS.iloadN X61.here hx rfl (hb hby d9_40) rfl k) ?_
        refine own_go (fun _ k => XS.aloadN X61.here hx rfl (hb hby d9_41) rfl rfl k) ?_
        obtain ⟨T62, X62, e62, st62⟩ := getF X61 hx hZ hown (host := "") (Or.inl (hw _ (List.mem_of_getElem? (i := 14) rfl))) Via.refl e61 F_search_r0_0 (g := (mkF m 42 #[.val (.ref r0), .val (.int p1), .val (.int p2), .val (.int (1 : Int32)), .unset] [(.ref r0), (.int (1 : Int32)), (.ref xF)])) rfl rfl (hb hby d9_42)
        refine own_go (fun tg k => st62 tg k) ?_
        show own_Fin _ _ _ _ _ _ _ (T62.setTop (mkF m 45 #[.val (.ref r0), .val (.int p1), .val (.int p2), .val (.int (1 : Int32)), .unset] [(.int se), (.int (1 : Int32)), (.ref xF)]))
        obtain ⟨T63, h63, X63, e63, W63, A_xF_63, st63⟩ := own_stI X62 hx hZ e62 A_xF_0 (j := (1 : Int32)) ⟨by decide, by decide⟩ (g := (mkF m 45 #[.val (.ref r0), .val (.int p1), .val (.int p2), .val (.int (1 : Int32)), .unset] [(.int se), (.int (1 : Int32)), (.ref xF)])) rfl rfl (hb hby d9_45)
        have F_numbers_r0_63 := F_numbers_r0_0.other W63 (Or.inl (own_ne_arf E_r0_0 (hw _ (List.mem_of_getElem? (i := 5) rfl)) A_xF_0))
        have F_elements_r0_63 := F_elements_r0_0.other W63 (Or.inl (own_ne_arf E_r0_0 (hw _ (List.mem_of_getElem? (i := 5) rfl)) A_xF_0))
        have F_foundIn_r0_63 := F_foundIn_r0_0.other W63 (Or.inl (own_ne_arf E_r0_0 (hw _ (List.mem_of_getElem? (i := 5) rfl)) A_xF_0))
        have F_next_r0_63 := F_next_r0_0.other W63 (Or.inl (own_ne_arf E_r0_0 (hw _ (List.mem_of_getElem? (i := 5) rfl)) A_xF_0))
        have F_found_r0_63 := F_found_r0_0.other W63 (Or.inl (own_ne_arf E_r0_0 (hw _ (List.mem_of_getElem? (i := 5) rfl)) A_xF_0))
        have F_bucketShift_r0_63 := F_bucketShift_r0_0.other W63 (Or.inl (own_ne_arf E_r0_0 (hw _ (List.mem_of_getElem? (i := 5) rfl)) A_xF_0))
        have F_bucketStart_r0_63 := F_bucketStart_r0_0.other W63 (Or.inl (own_ne_arf E_r0_0 (hw _ (List.mem_of_getElem? (i := 5) rfl)) A_xF_0))
        have E_r0_63 := E_r0_0.wr W63
        have F_search_r0_63 := F_search_r0_0.other W63 (Or.inl (own_ne_arf E_r0_0 (hw _ (List.mem_of_getElem? (i := 5) rfl)) A_xF_0))
        have F_foundCount_r0_63 := F_foundCount_r0_0.other W63 (Or.inl (own_ne_arf E_r0_0 (hw _ (List.mem_of_getElem? (i := 5) rfl)) A_xF_0))
        have F_firstOnly_r0_63 := F_firstOnly_r0_0.other W63 (Or.inl (own_ne_arf E_r0_0 (hw _ (List.mem_of_getElem? (i := 5) rfl)) A_xF_0))
        have F_forRuns_r0_63 := F_forRuns_r0_0.other W63 (Or.inl (own_ne_arf E_r0_0 (hw _ (List.mem_of_getElem? (i := 5) rfl)) A_xF_0))
        have F_runsLength_r0_63 := F_runsLength_r0_0.other W63 (Or.inl (own_ne_arf E_r0_0 (hw _ (List.mem_of_getElem? (i := 5) rfl)) A_xF_0))
        have A_xN_63 := A_xN_0.other W63 ne_xN_xF
        have A_xX_63 := A_xX_0.other W63 (Ne.symm ne_xF_xX)
        have A_xD_63 := A_xD_0.other W63 (Ne.symm ne_xF_xD)
        have A_xB_63 := A_xB_0.other W63 (Ne.symm ne_xF_xB)
        have K63 := K0.wr W63 (Or.inl (List.mem_of_getElem? (i := 1) rfl))
        have N63 := Fr.snoc X63 N60 ge_xF
        have Z63 : n0 ≤ h63.size := Nat.le_trans Z0 (Keep.of_wr W63).1
        obtain ⟨f63, hf63⟩ : ∃ z, z = (own_set gF (1 : Int32) se) := ⟨_, rfl⟩
        rw [← hf63] at A_xF_63
        refine own_go (fun tg k => st63 tg k) ?_
        show own_Fin _ _ _ _ _ _ _ (T63.setTop (mkF m 46 #[.val (.ref r0), .val (.int p1), .val (.int p2), .val (.int (1 : Int32)), .unset] []))
        refine own_go (fun _ k => XS.aloadN X63.here hx rfl (hb hby d9_46) rfl rfl k) ?_
        obtain ⟨T64, X64, e64, st64⟩ := getF X63 hx hZ hown (host := "") (Or.inl (hw _ (List.mem_of_getElem? (i := 26) rfl))) Via.refl e63 F_found_r0_63 (g := (mkF m 47 #[.val (.ref r0), .val (.int p1), .val (.int p2), .val (.int (1 : Int32)), .unset] [(.ref r0)])) rfl rfl (hb hby d9_47)
        refine own_go (fun tg k => st64 tg k) ?_
        show own_Fin _ _ _ _ _ _ _ (T64.setTop (mkF m 50 #[.val (.ref r0), .val (.int p1), .val (.int p2), .val (.int (1 : Int32)), .unset] [(.ref xD)]))
        refine own_go (fun _ k => XS.aloadN X64.here hx rfl (hb hby d9_50) rfl rfl k) ?_
        refine own_go (fun _ k => XS.dup X64.here hx rfl (hb hby d9_51) rfl rfl k) ?_
        obtain ⟨T65, X65, e65, st65⟩ := getF X64 hx hZ hown (host := "") (Or.inl (hw _ (List.mem_of_getElem? (i := 55) rfl))) Via.refl e64 F_foundCount_r0_63 (g := (mkF m 52 #[.val (.ref r0), .val (.int p1), .val (.int p2), .val (.int (1 : Int32)), .unset] [(.ref r0), (.ref r0), (.ref xD)])) rfl rfl (hb hby d9_52)
        refine own_go (fun tg k => st65 tg k) ?_
        show own_Fin _ _ _ _ _ _ _ (T65.setTop (mkF m 55 #[.val (.ref r0), .val (.int p1), .val (.int p2), .val (.int (1 : Int32)), .unset] [(.int (0 : Int32)), (.ref r0), (.ref xD)]))
        refine own_go (fun _ k => XS.dupX1 X65.here hx rfl (hb hby d9_55) rfl rfl rfl k) ?_
        show own_Fin _ _ _ _ _ _ _ (T65.setTop (mkF m 56 #[.val (.ref r0), .val (.int p1), .val (.int p2), .val (.int (1 : Int32)), .unset] [(.int (0 : Int32)), (.ref r0), (.int (0 : Int32)), (.ref xD)]))
        refine own_go (fun _ k => XS.iconst X65.here hx rfl (hb hby d9_56) k) ?_
        refine own_go (fun _ k => XS.iadd X65.here hx rfl (hb hby d9_57) rfl k) ?_
        show own_Fin _ _ _ _ _ _ _ (T65.setTop (mkF m 58 #[.val (.ref r0), .val (.int p1), .val (.int p2), .val (.int (1 : Int32)), .unset] [(.int (1 : Int32)), (.ref r0), (.int (0 : Int32)), (.ref xD)]))
        obtain ⟨T66, h66, X66, e66, W66, st66⟩ := putF X65 hx hZ hown (host := "") (Or.inl (hw _ (List.mem_of_getElem? (i := 55) rfl))) Via.refl e65 F_foundCount_r0_63 E_r0_63 (Or.inl (hw _ (List.mem_of_getElem? (i := 56) rfl))) (hw _ (List.mem_of_getElem? (i := 5) rfl)) (ty := .int) (by decide) rfl rfl (g := (mkF m 58 #[.val (.ref r0), .val (.int p1), .val (.int p2), .val (.int (1 : Int32)), .unset] [(.int (1 : Int32)), (.ref r0), (.int (0 : Int32)), (.ref xD)])) rfl rfl (hb hby d9_58)
        have F_numbers_r0_66 := F_numbers_r0_63.other W66 (Or.inr (own_sn360 hw))
        have F_elements_r0_66 := F_elements_r0_63.other W66 (Or.inr (own_sn361 hw))
        have F_foundIn_r0_66 := F_foundIn_r0_63.other W66 (Or.inr (own_sn362 hw))
        have F_next_r0_66 := F_next_r0_63.other W66 (Or.inr (own_sn363 hw))
        have F_found_r0_66 := F_found_r0_63.other W66 (Or.inr (own_sn364 hw))
        have F_bucketShift_r0_66 := F_bucketShift_r0_63.other W66 (Or.inr (own_sn365 hw))
        have F_bucketStart_r0_66 := F_bucketStart_r0_63.other W66 (Or.inr (own_sn366 hw))
        have E_r0_66 := E_r0_63.wr W66
        have F_search_r0_66 := F_search_r0_63.other W66 (Or.inr (own_sn367 hw))
        have F_firstOnly_r0_66 := F_firstOnly_r0_63.other W66 (Or.inr (own_sn368 hw))
        have F_forRuns_r0_66 := F_forRuns_r0_63.other W66 (Or.inr (own_sn369 hw))
        have F_runsLength_r0_66 := F_runsLength_r0_63.other W66 (Or.inr (own_sn370 hw))
        have A_xN_66 := A_xN_63.other W66 (Ne.symm (own_ne_arf E_r0_63 (hw _ (List.mem_of_getElem? (i := 5) rfl)) A_xN_63))
        have A_xF_66 := A_xF_63.other W66 (Ne.symm (own_ne_arf E_r0_63 (hw _ (List.mem_of_getElem? (i := 5) rfl)) A_xF_63))
        have A_xX_66 := A_xX_63.other W66 (Ne.symm (own_ne_arf E_r0_63 (hw _ (List.mem_of_getElem? (i := 5) rfl)) A_xX_63))
        have A_xD_66 := A_xD_63.other W66 (Ne.symm (own_ne_arf E_r0_63 (hw _ (List.mem_of_getElem? (i := 5) rfl)) A_xD_63))
        have A_xB_66 := A_xB_63.other W66 (Ne.symm (own_ne_arf E_r0_63 (hw _ (List.mem_of_getElem? (i := 5) rfl)) A_xB_63))
        have K66 := K63.wr W66 (Or.inl (List.mem_of_getElem? (i := 0) rfl))
        have N66 := Fr.snoc X66 N63 ge_r0
        have Z66 : n0 ≤ h66.size := Nat.le_trans Z63 (Keep.of_wr W66).1
        have F_foundCount_r0_66 := F_foundCount_r0_63.same W66
        refine own_go (fun tg k => st66 tg k) ?_
        show own_Fin _ _ _ _ _ _ _ (T66.setTop (mkF m 61 #[.val (.ref r0), .val (.int p1), .val (.int p2), .val (.int (1 : Int32)), .unset] [(.int (0 : Int32)), (.ref xD)]))
        refine own_go (fun _ k => XS.iloadN X66.here hx rfl (hb hby d9_61) rfl k) ?_
        obtain ⟨T67, h67, X67, e67, W67, A_xD_67, st67⟩ := own_stI X66 hx hZ e66 A_xD_66 (j := (0 : Int32)) ⟨by decide, by decide⟩ (g := (mkF m 62 #[.val (.ref r0), .val (.int p1), .val (.int p2), .val (.int (1 : Int32)), .unset] [(.int (1 : Int32)), (.int (0 : Int32)), (.ref xD)])) rfl rfl (hb hby d9_62)
        have F_numbers_r0_67 := F_numbers_r0_66.other W67 (Or.inl (own_ne_arf E_r0_66 (hw _ (List.mem_of_getElem? (i := 5) rfl)) A_xD_66))
        have F_elements_r0_67 := F_elements_r0_66.other W67 (Or.inl (own_ne_arf E_r0_66 (hw _ (List.mem_of_getElem? (i := 5) rfl)) A_xD_66))
        have F_foundIn_r0_67 := F_foundIn_r0_66.other W67 (Or.inl (own_ne_arf E_r0_66 (hw _ (List.mem_of_getElem? (i := 5) rfl)) A_xD_66))
        have F_next_r0_67 := F_next_r0_66.other W67 (Or.inl (own_ne_arf E_r0_66 (hw _ (List.mem_of_getElem? (i := 5) rfl)) A_xD_66))
        have F_found_r0_67 := F_found_r0_66.other W67 (Or.inl (own_ne_arf E_r0_66 (hw _ (List.mem_of_getElem? (i := 5) rfl)) A_xD_66))
        have F_bucketShift_r0_67 := F_bucketShift_r0_66.other W67 (Or.inl (own_ne_arf E_r0_66 (hw _ (List.mem_of_getElem? (i := 5) rfl)) A_xD_66))
        have F_bucketStart_r0_67 := F_bucketStart_r0_66.other W67 (Or.inl (own_ne_arf E_r0_66 (hw _ (List.mem_of_getElem? (i := 5) rfl)) A_xD_66))
        have E_r0_67 := E_r0_66.wr W67
        have F_search_r0_67 := F_search_r0_66.other W67 (Or.inl (own_ne_arf E_r0_66 (hw _ (List.mem_of_getElem? (i := 5) rfl)) A_xD_66))
        have F_foundCount_r0_67 := F_foundCount_r0_66.other W67 (Or.inl (own_ne_arf E_r0_66 (hw _ (List.mem_of_getElem? (i := 5) rfl)) A_xD_66))
        have F_firstOnly_r0_67 := F_firstOnly_r0_66.other W67 (Or.inl (own_ne_arf E_r0_66 (hw _ (List.mem_of_getElem? (i := 5) rfl)) A_xD_66))
        have F_forRuns_r0_67 := F_forRuns_r0_66.other W67 (Or.inl (own_ne_arf E_r0_66 (hw _ (List.mem_of_getElem? (i := 5) rfl)) A_xD_66))
        have F_runsLength_r0_67 := F_runsLength_r0_66.other W67 (Or.inl (own_ne_arf E_r0_66 (hw _ (List.mem_of_getElem? (i := 5) rfl)) A_xD_66))
        have A_xN_67 := A_xN_66.other W67 ne_xN_xD
        have A_xF_67 := A_xF_66.other W67 ne_xF_xD
        have A_xX_67 := A_xX_66.other W67 ne_xX_xD
        have A_xB_67 := A_xB_66.other W67 (Ne.symm ne_xD_xB)
        have K67 := K66.wr W67 (Or.inl (List.mem_of_getElem? (i := 3) rfl))
        have N67 := Fr.snoc X67 N66 ge_xD
        have Z67 : n0 ≤ h67.size := Nat.le_trans Z66 (Keep.of_wr W67).1
        obtain ⟨f67, hf67⟩ : ∃ z, z = (own_set gD (0 : Int32) (1 : Int32)) := ⟨_, rfl⟩
        rw [← hf67] at A_xD_67
        refine own_go (fun tg k => st67 tg k) ?_
        show own_Fin _ _ _ _ _ _ _ (T67.setTop (mkF m 63 #[.val (.ref r0), .val (.int p1), .val (.int p2), .val (.int (1 : Int32)), .unset] []))
        refine own_go (fun _ k => XS.aloadN X67.here hx rfl (hb hby d9_63) rfl rfl k) ?_
        refine own_go (fun _ k => XS.iloadN X67.here hx rfl (hb hby d9_64) rfl k) ?_
        refine own_go (fun _ k => XS.iconst X67.here hx rfl (hb hby d9_65) k) ?_
        refine own_go (fun _ k => XS.iadd X67.here hx rfl (hb hby d9_66) rfl k) ?_
        show own_Fin _ _ _ _ _ _ _ (T67.setTop (mkF m 67 #[.val (.ref r0), .val (.int p1), .val (.int p2), .val (.int (1 : Int32)), .unset] [(.int (2 : Int32)), (.ref r0)]))
        obtain ⟨cq68, q68, q68'⟩ := E_r0_67.cell
        obtain ⟨_, _, ⟨T68, L68, k68, n68⟩, -, X68, ⟨Lc68, hQ68, l68, y68, z68⟩, st68⟩ := X67.privateBack hx (y := (⟨"com/example/reachability/reachability/CandidateList", "open", "(I)I"⟩ : MethodName)) hown (mvT hZ (hw _ (List.mem_of_getElem? (i := 74) rfl))) (mvT hZ (hw _ (List.mem_of_getElem? (i := 75) rfl))) (own_selpriv (z := (⟨"com/example/reachability/reachability/CandidateList", "satisfied", "()Z"⟩ : MethodName)) rfl (mvT (args := #[]) hZ (hw _ (List.mem_of_getElem? (i := 45) rfl))) (Cond.privateMethod_at (mvP hZ (hw _ (List.mem_of_getElem? (i := 76) rfl)) (args := #[]))) (mvT hZ (hw _ (List.mem_of_getElem? (i := 75) rfl))) (by decide)) (Cond.privateMethod_at (mvP hZ (hw _ (List.mem_of_getElem? (i := 76) rfl)) (args := #[]))) (mvT hZ (hw _ (List.mem_of_getElem? (i := 77) rfl))) (by decide) (backOf (W := 0) (rm12f l Z a0 hw [] r0 (2 : Int32) xN gN xF f63 se h67 n0 Z67 F_numbers_r0_67 A_xN_67 F_foundIn_r0_67 A_xF_67 F_search_r0_67 ⟨by decide, fun _ => by rw [hf63, own_setne _ _ _ _ (by decide)]; exact hp.2 2 (by decide)⟩) hZ (hw _ (List.mem_of_getElem? (i := 77) rfl)) (hw _ (List.mem_of_getElem? (i := 6) rfl)) (by decide) (by decide)) (g := (mkF m 67 #[.val (.ref r0), .val (.int p1), .val (.int p2), .val (.int (1 : Int32)), .unset] [(.int (2 : Int32)), (.ref r0)])) rfl (by rw [hml]; rfl) (Steps.refl _) (a := r0) (by rw [e67]; exact q68) q68' (argsL := [(.int (2 : Int32))]) (rest := []) (lenOf own_pd428 rfl) rfl (by show 2 * 0 + _ ≤ _; exact Nat.le_of_eq rfl) (hb hby d9_67) (fun _ _ => ⟨rfl, e67, (by decide : 0 + 0 ≤ _), (by decide : 0 + 0 ≤ _)⟩)
        dsimp only [Pt.U, Pt.locs, Pt.cells, Pt.slots] at X68 l68 y68 z68 st68 hQ68
        replace y68 : 0 = k68 := y68.symm
        replace z68 : 0 = n68 := z68.symm
        subst y68 z68
        obtain ⟨rfl, N68q, e68⟩ := hQ68
        have N68 : Fr n0 L68 := by rw [l68]; exact Fr.app N67 N68q
        refine own_go (fun tg k => st68.trans k) ?_
        show own_Fin _ _ _ _ _ _ _ (T68.setTop (mkF m 70 #[.val (.ref r0), .val (.int p1), .val (.int p2), .val (.int (1 : Int32)), .unset] [(.int (2 : Int32))]))
        refine own_go (fun _ k => XS.istore X68.here hx rfl (hb hby d9_70) rfl (l' := #[.val (.ref r0), .val (.int p1), .val (.int p2), .val (.int (1 : Int32)), .val (.int (2 : Int32))]) rfl k) ?_
        show own_Fin _ _ _ _ _ _ _ (T68.setTop (mkF m 72 #[.val (.ref r0), .val (.int p1), .val (.int p2), .val (.int (1 : Int32)), .val (.int (2 : Int32))] []))
        refine own_go (fun _ k => XS.aloadN X68.here hx rfl (hb hby d9_72) rfl rfl k) ?_
        obtain ⟨T69, X69, e69, st69⟩ := getF X68 hx hZ hown (host := "") (Or.inl (hw _ (List.mem_of_getElem? (i := 24) rfl))) Via.refl e68 F_next_r0_67 (g := (mkF m 73 #[.val (.ref r0), .val (.int p1), .val (.int p2), .val (.int (1 : Int32)), .val (.int (2 : Int32))] [(.ref r0)])) rfl rfl (hb hby d9_73)
        refine own_go (fun tg k => st69 tg k) ?_
        show own_Fin _ _ _ _ _ _ _ (T69.setTop (mkF m 76 #[.val (.ref r0), .val (.int p1), .val (.int p2), .val (.int (1 : Int32)), .val (.int (2 : Int32))] [(.ref xX)]))
        refine own_go (fun _ k => XS.iloadN X69.here hx rfl (hb hby d9_76) rfl k) ?_
        refine own_go (fun _ k => XS.iload X69.here hx rfl (hb hby d9_77) rfl k) ?_
        obtain ⟨T70, h70, X70, e70, W70, A_xX_70, st70⟩ := own_stI X69 hx hZ e69 A_xX_67 (j := (1 : Int32)) ⟨by decide, by decide⟩ (g := (mkF m 79 #[.val (.ref r0), .val (.int p1), .val (.int p2), .val (.int (1 : Int32)), .val (.int (2 : Int32))] [(.int (2 : Int32)), (.int (1 : Int32)), (.ref xX)])) rfl rfl (hb hby d9_79)
        have F_numbers_r0_70 := F_numbers_r0_67.other W70 (Or.inl (own_ne_arf E_r0_67 (hw _ (List.mem_of_getElem? (i := 5) rfl)) A_xX_67))
        have F_elements_r0_70 := F_elements_r0_67.other W70 (Or.inl (own_ne_arf E_r0_67 (hw _ (List.mem_of_getElem? (i := 5) rfl)) A_xX_67))
        have F_foundIn_r0_70 := F_foundIn_r0_67.other W70 (Or.inl (own_ne_arf E_r0_67 (hw _ (List.mem_of_getElem? (i := 5) rfl)) A_xX_67))
        have F_next_r0_70 := F_next_r0_67.other W70 (Or.inl (own_ne_arf E_r0_67 (hw _ (List.mem_of_getElem? (i := 5) rfl)) A_xX_67))
        have F_found_r0_70 := F_found_r0_67.other W70 (Or.inl (own_ne_arf E_r0_67 (hw _ (List.mem_of_getElem? (i := 5) rfl)) A_xX_67))
        have F_bucketShift_r0_70 := F_bucketShift_r0_67.other W70 (Or.inl (own_ne_arf E_r0_67 (hw _ (List.mem_of_getElem? (i := 5) rfl)) A_xX_67))
        have F_bucketStart_r0_70 := F_bucketStart_r0_67.other W70 (Or.inl (own_ne_arf E_r0_67 (hw _ (List.mem_of_getElem? (i := 5) rfl)) A_xX_67))
        have E_r0_70 := E_r0_67.wr W70
        have F_search_r0_70 := F_search_r0_67.other W70 (Or.inl (own_ne_arf E_r0_67 (hw _ (List.mem_of_getElem? (i := 5) rfl)) A_xX_67))
        have F_foundCount_r0_70 := F_foundCount_r0_67.other W70 (Or.inl (own_ne_arf E_r0_67 (hw _ (List.mem_of_getElem? (i := 5) rfl)) A_xX_67))
        have F_firstOnly_r0_70 := F_firstOnly_r0_67.other W70 (Or.inl (own_ne_arf E_r0_67 (hw _ (List.mem_of_getElem? (i := 5) rfl)) A_xX_67))
        have F_forRuns_r0_70 := F_forRuns_r0_67.other W70 (Or.inl (own_ne_arf E_r0_67 (hw _ (List.mem_of_getElem? (i := 5) rfl)) A_xX_67))
        have F_runsLength_r0_70 := F_runsLength_r0_67.other W70 (Or.inl (own_ne_arf E_r0_67 (hw _ (List.mem_of_getElem? (i := 5) rfl)) A_xX_67))
        have A_xN_70 := A_xN_67.other W70 ne_xN_xX
        have A_xF_70 := A_xF_67.other W70 ne_xF_xX
        have A_xD_70 := A_xD_67.other W70 (Ne.symm ne_xX_xD)
        have A_xB_70 := A_xB_67.other W70 (Ne.symm ne_xX_xB)
        have K70 := K67.wr W70 (Or.inl (List.mem_of_getElem? (i := 2) rfl))
        have N70 := Fr.snoc X70 N68 ge_xX
        have Z70 : n0 ≤ h70.size := Nat.le_trans Z67 (Keep.of_wr W70).1
        obtain ⟨f70, hf70⟩ : ∃ z, z = (own_set gX (1 : Int32) (2 : Int32)) := ⟨_, rfl⟩
        rw [← hf70] at A_xX_70
        refine own_go (fun tg k => st70 tg k) ?_
        show own_Fin _ _ _ _ _ _ _ (T70.setTop (mkF m 80 #[.val (.ref r0), .val (.int p1), .val (.int p2), .val (.int (1 : Int32)), .val (.int (2 : Int32))] []))
        refine own_go (fun _ k => XS.iload X70.here hx rfl (hb hby d9_80) rfl k) ?_
        refine own_go (fun _ k => XS.istoreN X70.here hx rfl (hb hby d9_82) rfl (l' := #[.val (.ref r0), .val (.int p1), .val (.int p2), .val (.int (2 : Int32)), .val (.int (2 : Int32))]) rfl k) ?_
        show own_Fin _ _ _ _ _ _ _ (T70.setTop (mkF m 83 #[.val (.ref r0), .val (.int p1), .val (.int p2), .val (.int (2 : Int32)), .val (.int (2 : Int32))] []))
        refine own_go (fun _ k => XS.goto X70.here hx rfl (pc0 := 83) (pc' := 10) rfl (hb hby d9_83) (by decide) (by decide) k) ?_
        show own_Fin _ _ _ _ _ _ _ (T70.setTop (mkF m 10 #[.val (.ref r0), .val (.int p1), .val (.int p2), .val (.int (2 : Int32)), .val (.int (2 : Int32))] []))
        refine own_go (fun _ k => XS.iloadN X70.here hx rfl (hb hby d9_10) rfl k) ?_
        refine own_go (fun _ k => XS.aloadN X70.here hx rfl (hb hby d9_11) rfl rfl k) ?_
        obtain ⟨T71, X71, e71, st71⟩ := getF X70 hx hZ hown (host := "") (Or.inl (hw _ (List.mem_of_getElem? (i := 18) rfl))) Via.refl e70 F_numbers_r0_70 (g := (mkF m 12 #[.val (.ref r0), .val (.int p1), .val (.int p2), .val (.int (2 : Int32)), .val (.int (2 : Int32))] [(.ref r0), (.int (2 : Int32))])) rfl rfl (hb hby d9_12)
        refine own_go (fun tg k => st71 tg k) ?_
        show own_Fin _ _ _ _ _ _ _ (T71.setTop (mkF m 15 #[.val (.ref r0), .val (.int p1), .val (.int p2), .val (.int (2 : Int32)), .val (.int (2 : Int32))] [(.ref xN), (.int (2 : Int32))]))
        refine own_go (fun tg k => own_alen X71 hx hZ e71 A_xN_70 (g := (mkF m 15 #[.val (.ref r0), .val (.int p1), .val (.int p2), .val (.int (2 : Int32)), .val (.int (2 : Int32))] [(.ref xN), (.int (2 : Int32))])) rfl rfl (hb hby d9_15) tg k) ?_
        show own_Fin _ _ _ _ _ _ _ (T71.setTop (mkF m 16 #[.val (.ref r0), .val (.int p1), .val (.int p2), .val (.int (2 : Int32)), .val (.int (2 : Int32))] [(.int (3 : Int32)), (.int (2 : Int32))]))
        refine own_go (fun _ k => XS.icmpNo X71.here hx rfl (hb hby d9_16) rfl (tlt (by decide)).2.1 k) ?_
        show own_Fin _ _ _ _ _ _ _ (T71.setTop (mkF m 19 #[.val (.ref r0), .val (.int p1), .val (.int p2), .val (.int (2 : Int32)), .val (.int (2 : Int32))] []))
        refine own_go (fun _ k => XS.aloadN X71.here hx rfl (hb hby d9_19) rfl rfl k) ?_
        obtain ⟨T72, X72, e72, st72⟩ := getF X71 hx hZ hown (host := "") (Or.inl (hw _ (List.mem_of_getElem? (i := 18) rfl))) Via.refl e71 F_numbers_r0_70 (g := (mkF m 20 #[.val (.ref r0), .val (.int p1), .val (.int p2), .val (.int (2 : Int32)), .val (.int (2 : Int32))] [(.ref r0)])) rfl rfl (hb hby d9_20)
        refine own_go (fun tg k => st72 tg k) ?_
        show own_Fin _ _ _ _ _ _ _ (T72.setTop (mkF m 23 #[.val (.ref r0), .val (.int p1), .val (.int p2), .val (.int (2 : Int32)), .val (.int (2 : Int32))] [(.ref xN)]))
        refine own_go (fun _ k => XS.iloadN X72.here hx rfl (hb hby d9_23) rfl k) ?_
        refine own_go (fun tg k => own_iaload X72 hx hZ e72 A_xN_70 (j := (2 : Int32)) ⟨by decide, by decide⟩ (x := (gN 2)) rfl (g := (mkF m 24 #[.val (.ref r0), .val (.int p1), .val (.int p2), .val (.int (2 : Int32)), .val (.int (2 : Int32))] [(.int (2 : Int32)), (.ref xN)])) rfl rfl (hb hby d9_24) tg k) ?_
        show own_Fin _ _ _ _ _ _ _ (T72.setTop (mkF m 25 #[.val (.ref r0), .val (.int p1), .val (.int p2), .val (.int (2 : Int32)), .val (.int (2 : Int32))] [(.int (gN 2))]))
        refine own_go (fun _ k => XS.iloadN X72.here hx rfl (hb hby d9_25) rfl k) ?_
        show own_Fin _ _ _ _ _ _ _ (T72.setTop (mkF m 26 #[.val (.ref r0), .val (.int p1), .val (.int p2), .val (.int (2 : Int32)), .val (.int (2 : Int32))] [(.int p2), (.int (gN 2))]))
        by_cases hc73 : p2 < (gN 2)
        · refine own_go (fun _ k => XS.icmpYes X72.here hx rfl (pc0 := 26) (pc' := 86) rfl (hb hby d9_26) rfl (tlt hc73).2.2.1 (by decide) (by decide) k) ?_
          show own_Fin _ _ _ _ _ _ _ (T72.setTop (mkF m 86 #[.val (.ref r0), .val (.int p1), .val (.int p2), .val (.int (2 : Int32)), .val (.int (2 : Int32))] []))
          refine own_go (fun _ k => XS.aloadN X72.here hx rfl (hb hby d9_86) rfl rfl k) ?_
          refine own_go (fun _ k => XS.iloadN X72.here hx rfl (hb hby d9_87) rfl k) ?_
          obtain ⟨cq74, q74, q74'⟩ := E_r0_70.cell
          obtain ⟨_, _, ⟨T74, L74, k74, n74⟩, -, X74, ⟨Lc74, hQ74, l74, y74, z74⟩, st74⟩ := X72.privateBack hx (y := (⟨"com/example/reachability/reachability/CandidateList", "numberOf", "(I)I"⟩ : MethodName)) hown (mvT hZ (hw _ (List.mem_of_getElem? (i := 78) rfl))) (mvT hZ (hw _ (List.mem_of_getElem? (i := 79) rfl))) (own_selpriv (z := (⟨"com/example/reachability/reachability/CandidateList", "satisfied", "()Z"⟩ : MethodName)) rfl (mvT (args := #[]) hZ (hw _ (List.mem_of_getElem? (i := 45) rfl))) (Cond.privateMethod_at (mvP hZ (hw _ (List.mem_of_getElem? (i := 80) rfl)) (args := #[]))) (mvT hZ (hw _ (List.mem_of_getElem? (i := 79) rfl))) (by decide)) (Cond.privateMethod_at (mvP hZ (hw _ (List.mem_of_getElem? (i := 80) rfl)) (args := #[]))) (mvT hZ (hw _ (List.mem_of_getElem? (i := 81) rfl))) (by decide) (backOf (W := 0) (rm13 l Z a0 hw [] r0 (2 : Int32) xN gN h70 n0 Z70 F_numbers_r0_70 A_xN_70 (by decide)) hZ (hw _ (List.mem_of_getElem? (i := 81) rfl)) (hw _ (List.mem_of_getElem? (i := 6) rfl)) (by decide) (by decide)) (g := (mkF m 88 #[.val (.ref r0), .val (.int p1), .val (.int p2), .val (.int (2 : Int32)), .val (.int (2 : Int32))] [(.int (2 : Int32)), (.ref r0)])) rfl (by rw [hml]; rfl) (Steps.refl _) (a := r0) (by rw [e72]; exact q74) q74' (argsL := [(.int (2 : Int32))]) (rest := []) (lenOf own_pd428 rfl) rfl (by show 2 * 0 + _ ≤ _; exact Nat.le_of_eq rfl) (hb hby d9_88) (fun _ _ => ⟨rfl, e72, (by decide : 0 + 0 ≤ _), (by decide : 0 + 0 ≤ _)⟩)
          dsimp only [Pt.U, Pt.locs, Pt.cells, Pt.slots] at X74 l74 y74 z74 st74 hQ74
          replace y74 : 0 = k74 := y74.symm
          replace z74 : 0 = n74 := z74.symm
          subst y74 z74
          obtain ⟨rfl, N74q, e74⟩ := hQ74
          have N74 : Fr n0 L74 := by rw [l74]; exact Fr.app N70 N74q
          refine own_go (fun tg k => st74.trans k) ?_
          show own_Fin _ _ _ _ _ _ _ (T74.setTop (mkF m 91 #[.val (.ref r0), .val (.int p1), .val (.int p2), .val (.int (2 : Int32)), .val (.int (2 : Int32))] [(.int (own_f13 (2 : Int32) gN))]))
          refine own_ret X74 hx hlk Bd.returns rfl (Or.inl ⟨rfl, by simp, _, rfl⟩) (hb hby d9_91) (Nat.le_of_ble_eq_true rfl) (Nat.le_of_ble_eq_true rfl) ?_
          rw [e74]
          refine ⟨(own_lf_own_f9f_36 (p1 := p1) (p2 := p2) (sh := sh) (se := se) (fo := fo) (fr := fr) (rl := rl) (gN := gN) (gF := gF) (gX := gX) (gD := gD) (nB := nB) (gB := gB) hs3 hs55 hc58 hc73), N74, K70, ?_, ?_, ?_, ?_, ?_, ?_, ?_, E_r0_70, ?_, (by rw [← (own_lf_own_f9f_37 (p1 := p1) (p2 := p2) (sh := sh) (se := se) (fo := fo) (fr := fr) (rl := rl) (gN := gN) (gF := gF) (gX := gX) (gD := gD) (nB := nB) (gB := gB) hs3 hs55 hc58 hc73)]; exact F_foundCount_r0_70), ?_, ?_, ?_, (by rw [← (own_lf_own_f9f_38 (p1 := p1) (p2 := p2) (sh := sh) (se := se) (fo := fo) (fr := fr) (rl := rl) (gN := gN) (gF := gF) (gX := gX) (gD := gD) (nB := nB) (gB := gB) hf63 hs3 hs55 hc58 hc73)]; exact A_xF_70), (by rw [← (own_lf_own_f9f_39 (p1 := p1) (p2 := p2) (sh := sh) (se := se) (fo := fo) (fr := fr) (rl := rl) (gN := gN) (gF := gF) (gX := gX) (gD := gD) (nB := nB) (gB := gB) hf70 hs3 hs55 hc58 hc73)]; exact A_xX_70), (by rw [← (own_lf_own_f9f_40 (p1 := p1) (p2 := p2) (sh := sh) (se := se) (fo := fo) (fr := fr) (rl := rl) (gN := gN) (gF := gF) (gX := gX) (gD := gD) (nB := nB) (gB := gB) hf67 hs3 hs55 hc58 hc73)]; exact A_xD_70)⟩
          all_goals try subst hf70
          all_goals try subst hf67
          all_goals try subst hf63
          · first | (exact F_numbers_r0_70) | (simp only [if_neg hs3, if_pos hs55, if_neg hc58, if_pos hc73]; exact F_numbers_r0_70)
          · first | (exact F_elements_r0_70) | (simp only [if_neg hs3, if_pos hs55, if_neg hc58, if_pos hc73]; exact F_elements_r0_70)
          · first | (exact F_foundIn_r0_70) | (simp only [if_neg hs3, if_pos hs55, if_neg hc58, if_pos hc73]; exact F_foundIn_r0_70)
          · first | (exact F_next_r0_70) | (simp only [if_neg hs3, if_pos hs55, if_neg hc58, if_pos hc73]; exact F_next_r0_70)
          · first | (exact F_found_r0_70) | (simp only [if_neg hs3, if_pos hs55, if_neg hc58, if_pos hc73]; exact F_found_r0_70)
          · first | (exact F_bucketShift_r0_70) | (simp only [if_neg hs3, if_pos hs55, if_neg hc58, if_pos hc73]; exact F_bucketShift_r0_70)
          · first | (exact F_bucketStart_r0_70) | (simp only [if_neg hs3, if_pos hs55, if_neg hc58, if_pos hc73]; exact F_bucketStart_r0_70)
          · first | (exact F_search_r0_70) | (simp only [if_neg hs3, if_pos hs55, if_neg hc58, if_pos hc73]; exact F_search_r0_70)
          · first | (exact F_firstOnly_r0_70) | (simp only [if_neg hs3, if_pos hs55, if_neg hc58, if_pos hc73]; exact F_firstOnly_r0_70)
          · first | (exact F_forRuns_r0_70) | (simp only [if_neg hs3, if_pos hs55, if_neg hc58, if_pos hc73]; exact F_forRuns_r0_70)
          · first | (exact F_runsLength_r0_70) | (simp only [if_neg hs3, if_pos hs55, if_neg hc58, if_pos hc73]; exact F_runsLength_r0_70)
        · refine own_go (fun _ k => XS.icmpNo X72.here hx rfl (hb hby d9_26) rfl (flt hc73).2.2.1 k) ?_
          show own_Fin _ _ _ _ _ _ _ (T72.setTop (mkF m 29 #[.val (.ref r0), .val (.int p1), .val (.int p2), .val (.int (2 : Int32)), .val (.int (2 : Int32))] []))
          refine own_go (fun _ k => XS.aloadN X72.here hx rfl (hb hby d9_29) rfl rfl k) ?_
          obtain ⟨cq75, kq75, q75a, q75b, q75c⟩ := isOf hZ e72 E_r0_70
          obtain ⟨_, _, ⟨T75, L75, k75, n75⟩, -, X75, ⟨Lc75, hQ75, l75, y75, z75⟩, st75⟩ := X72.virtualBack hx (y := (⟨"com/example/reachability/reachability/CandidateList", "satisfied", "()Z"⟩ : MethodName)) (z := (⟨"com/example/reachability/reachability/CandidateList", "satisfied", "()Z"⟩ : MethodName)) hown (mvT hZ (hw _ (List.mem_of_getElem? (i := 82) rfl))) (mvT hZ (hw _ (List.mem_of_getElem? (i := 43) rfl))) (notFace_of_selects (args := #[]) (mvT hZ (hw _ (List.mem_of_getElem? (i := 45) rfl)))) (mvT hZ (hw _ (List.mem_of_getElem? (i := 45) rfl))) (mvT hZ (hw _ (List.mem_of_getElem? (i := 44) rfl))) (by decide) (backOf (W := 0) (rm7 l Z a0 hw [] r0 fo (1 : Int32) h70 n0 Z70 F_firstOnly_r0_70 F_foundCount_r0_70) hZ (hw _ (List.mem_of_getElem? (i := 46) rfl)) (hw _ (List.mem_of_getElem? (i := 6) rfl)) (by decide) (by decide)) q75a q75c (g := (mkF m 30 #[.val (.ref r0), .val (.int p1), .val (.int p2), .val (.int (2 : Int32)), .val (.int (2 : Int32))] [(.ref r0)])) rfl (by rw [hml]; rfl) (Steps.refl _) (argsL := []) (rest := []) (lenOf own_pd429 rfl) rfl (by show 2 * 0 + _ ≤ _; exact Nat.le_of_eq rfl) (hb hby d9_30) (fun _ _ => ⟨rfl, e72, (by decide : 0 + 0 ≤ _), (by decide : 0 + 0 ≤ _)⟩)
          dsimp only [Pt.U, Pt.locs, Pt.cells, Pt.slots] at X75 l75 y75 z75 st75 hQ75
          replace y75 : 0 = k75 := y75.symm
          replace z75 : 0 = n75 := z75.symm
          subst y75 z75
          obtain ⟨rfl, N75q, e75⟩ := hQ75
          have N75 : Fr n0 L75 := by rw [l75]; exact Fr.app N70 N75q
          refine own_go (fun tg k => st75.trans k) ?_
          show own_Fin _ _ _ _ _ _ _ (T75.setTop (mkF m 33 #[.val (.ref r0), .val (.int p1), .val (.int p2), .val (.int (2 : Int32)), .val (.int (2 : Int32))] [(.int (own_f7 fo (1 : Int32)))]))
          by_cases hc76 : (own_f7 fo (1 : Int32)) = (0 : Int32)
          · refine own_go (fun _ k => XS.ifNo X75.here hx rfl (hb hby d9_33) rfl ((if0 _ _).trans (teq hc76).2) k) ?_
            show own_Fin _ _ _ _ _ _ _ (T75.setTop (mkF m 36 #[.val (.ref r0), .val (.int p1), .val (.int p2), .val (.int (2 : Int32)), .val (.int (2 : Int32))] []))
            refine own_go (fun _ k => XS.aloadN X75.here hx rfl (hb hby d9_36) rfl rfl k) ?_
            obtain ⟨T77, X77, e77, st77⟩ := getF X75 hx hZ hown (host := "") (Or.inl (hw _ (List.mem_of_getElem? (i := 22) rfl))) Via.refl e75 F_foundIn_r0_70 (g := (mkF m 37 #[.val (.ref r0), .val (.int p1), .val (.int p2), .val (.int (2 : Int32)), .val (.int (2 : Int32))] [(.ref r0)])) rfl rfl (hb hby d9_37)
            refine own_go (fun tg k => st77 tg k) ?_
            show own_Fin _ _ _ _ _ _ _ (T77.setTop (mkF m 40 #[.val (.ref r0), .val (.int p1), .val (.int p2), .val (.int (2 : Int32)), .val (.int (2 : Int32))] [(.ref xF)]))
            refine own_go (fun _ k => XS.iloadN X77.here hx rfl (hb hby d9_40) rfl k) ?_
            refine own_go (fun _ k => XS.aloadN X77.here hx rfl (hb hby d9_41) rfl rfl k) ?_
            obtain ⟨T78, X78, e78, st78⟩ := getF X77 hx hZ hown (host := "") (Or.inl (hw _ (List.mem_of_getElem? (i := 14) rfl))) Via.refl e77 F_search_r0_70 (g := (mkF m 42 #[.val (.ref r0), .val (.int p1), .val (.int p2), .val (.int (2 : Int32)), .val (.int (2 : Int32))] [(.ref r0), (.int (2 : Int32)), (.ref xF)])) rfl rfl (hb hby d9_42)
            refine own_go (fun tg k => st78 tg k) ?_
            show own_Fin _ _ _ _ _ _ _ (T78.setTop (mkF m 45 #[.val (.ref r0), .val (.int p1), .val (.int p2), .val (.int (2 : Int32)), .val (.int (2 : Int32))] [(.int se), (.int (2 : Int32)), (.ref xF)]))
            obtain ⟨T79, h79, X79, e79, W79, A_xF_79, st79⟩ := own_stI X78 hx hZ e78 A_xF_70 (j := (2 : Int32)) ⟨by decide, by decide⟩ (g := (mkF m 45 #[.val (.ref r0), .val (.int p1), .val (.int p2), .val (.int (2 : Int32)), .val (.int (2 : Int32))] [(.int se), (.int (2 : Int32)), (.ref xF)])) rfl rfl (hb hby d9_45)
            have F_numbers_r0_79 := F_numbers_r0_70.other W79 (Or.inl (own_ne_arf E_r0_70 (hw _ (List.mem_of_getElem? (i := 5) rfl)) A_xF_70))
            have F_elements_r0_79 := F_elements_r0_70.other W79 (Or.inl (own_ne_arf E_r0_70 (hw _ (List.mem_of_getElem? (i := 5) rfl)) A_xF_70))
            have F_foundIn_r0_79 := F_foundIn_r0_70.other W79 (Or.inl (own_ne_arf E_r0_70 (hw _ (List.mem_of_getElem? (i := 5) rfl)) A_xF_70))
            have F_next_r0_79 := F_next_r0_70.other W79 (Or.inl (own_ne_arf E_r0_70 (hw _ (List.mem_of_getElem? (i := 5) rfl)) A_xF_70))
            have F_found_r0_79 := F_found_r0_70.other W79 (Or.inl (own_ne_arf E_r0_70 (hw _ (List.mem_of_getElem? (i := 5) rfl)) A_xF_70))
            have F_bucketShift_r0_79 := F_bucketShift_r0_70.other W79 (Or.inl (own_ne_arf E_r0_70 (hw _ (List.mem_of_getElem? (i := 5) rfl)) A_xF_70))
            have F_bucketStart_r0_79 := F_bucketStart_r0_70.other W79 (Or.inl (own_ne_arf E_r0_70 (hw _ (List.mem_of_getElem? (i := 5) rfl)) A_xF_70))
            have E_r0_79 := E_r0_70.wr W79
            have F_search_r0_79 := F_search_r0_70.other W79 (Or.inl (own_ne_arf E_r0_70 (hw _ (List.mem_of_getElem? (i := 5) rfl)) A_xF_70))
            have F_foundCount_r0_79 := F_foundCount_r0_70.other W79 (Or.inl (own_ne_arf E_r0_70 (hw _ (List.mem_of_getElem? (i := 5) rfl)) A_xF_70))
            have F_firstOnly_r0_79 := F_firstOnly_r0_70.other W79 (Or.inl (own_ne_arf E_r0_70 (hw _ (List.mem_of_getElem? (i := 5) rfl)) A_xF_70))
            have F_forRuns_r0_79 := F_forRuns_r0_70.other W79 (Or.inl (own_ne_arf E_r0_70 (hw _ (List.mem_of_getElem? (i := 5) rfl)) A_xF_70))
            have F_runsLength_r0_79 := F_runsLength_r0_70.other W79 (Or.inl (own_ne_arf E_r0_70 (hw _ (List.mem_of_getElem? (i := 5) rfl)) A_xF_70))
            have A_xN_79 := A_xN_70.other W79 ne_xN_xF
            have A_xX_79 := A_xX_70.other W79 (Ne.symm ne_xF_xX)
            have A_xD_79 := A_xD_70.other W79 (Ne.symm ne_xF_xD)
            have A_xB_79 := A_xB_70.other W79 (Ne.symm ne_xF_xB)
            have K79 := K70.wr W79 (Or.inl (List.mem_of_getElem? (i := 1) rfl))
            have N79 := Fr.snoc X79 N75 ge_xF
            have Z79 : n0 ≤ h79.size := Nat.le_trans Z70 (Keep.of_wr W79).1
            obtain ⟨f79, hf79⟩ : ∃ z, z = (own_set f63 (2 : Int32) se) := ⟨_, rfl⟩
            rw [← hf79] at A_xF_79
            refine own_go (fun tg k => st79 tg k) ?_
            show own_Fin _ _ _ _ _ _ _ (T79.setTop (mkF m 46 #[.val (.ref r0), .val (.int p1), .val (.int p2), .val (.int (2 : Int32)), .val (.int (2 : Int32))] []))
            refine own_go (fun _ k => XS.aloadN X79.here hx rfl (hb hby d9_46) rfl rfl k) ?_
            obtain ⟨T80, X80, e80, st80⟩ := getF X79 hx hZ hown (host := "") (Or.inl (hw _ (List.mem_of_getElem? (i := 26) rfl))) Via.refl e79 F_found_r0_79 (g := (mkF m 47 #[.val (.ref r0), .val (.int p1), .val (.int p2), .val (.int (2 : Int32)), .val (.int (2 : Int32))] [(.ref r0)])) rfl rfl (hb hby d9_47)
            refine own_go (fun tg k => st80 tg k) ?_
            show own_Fin _ _ _ _ _ _ _ (T80.setTop (mkF m 50 #[.val (.ref r0), .val (.int p1), .val (.int p2), .val (.int (2 : Int32)), .val (.int (2 : Int32))] [(.ref xD)]))
            refine own_go (fun _ k => XS.aloadN X80.here hx rfl (hb hby d9_50) rfl rfl k) ?_
            refine own_go (fun _ k => XS.dup X80.here hx rfl (hb hby d9_51) rfl rfl k) ?_
            obtain ⟨T81, X81, e81, st81⟩ := getF X80 hx hZ hown (host := "") (Or.inl (hw _ (List.mem_of_getElem? (i := 55) rfl))) Via.refl e80 F_foundCount_r0_79 (g := (mkF m 52 #[.val (.ref r0), .val (.int p1), .val (.int p2), .val (.int (2 : Int32)), .val (.int (2 : Int32))] [(.ref r0), (.ref r0), (.ref xD)])) rfl rfl (hb hby d9_52)
            refine own_go (fun tg k => st81 tg k) ?_
            show own_Fin _ _ _ _ _ _ _ (T81.setTop (mkF m 55 #[.val (.ref r0), .val (.int p1), .val (.int p2), .val (.int (2 : Int32)), .val (.int (2 : Int32))] [(.int (1 : Int32)), (.ref r0), (.ref xD)]))
            refine own_go (fun _ k => XS.dupX1 X81.here hx rfl (hb hby d9_55) rfl rfl rfl k) ?_
            show own_Fin _ _ _ _ _ _ _ (T81.setTop (mkF m 56 #[.val (.ref r0), .val (.int p1), .val (.int p2), .val (.int (2 : Int32)), .val (.int (2 : Int32))] [(.int (1 : Int32)), (.ref r0), (.int (1 : Int32)), (.ref xD)]))
            refine own_go (fun _ k => XS.iconst X81.here hx rfl (hb hby d9_56) k) ?_
            refine own_go (fun _ k => XS.iadd X81.here hx rfl (hb hby d9_57) rfl k) ?_
            show own_Fin _ _ _ _ _ _ _ (T81.setTop (mkF m 58 #[.val (.ref r0), .val (.int p1), .val (.int p2), .val (.int (2 : Int32)), .val (.int (2 : Int32))] [(.int (2 : Int32)), (.ref r0), (.int (1 : Int32)), (.ref xD)]))
            obtain ⟨T82, h82, X82, e82, W82, st82⟩ := putF X81 hx hZ hown (host := "") (Or.inl (hw _ (List.mem_of_getElem? (i := 55) rfl))) Via.refl e81 F_foundCount_r0_79 E_r0_79 (Or.inl (hw _ (List.mem_of_getElem? (i := 56) rfl))) (hw _ (List.mem_of_getElem? (i := 5) rfl)) (ty := .int) (by decide) rfl rfl (g := (mkF m 58 #[.val (.ref r0), .val (.int p1), .val (.int p2), .val (.int (2 : Int32)), .val (.int (2 : Int32))] [(.int (2 : Int32)), (.ref r0), (.int (1 : Int32)), (.ref xD)])) rfl rfl (hb hby d9_58)
            have F_numbers_r0_82 := F_numbers_r0_79.other W82 (Or.inr (own_sn360 hw))
            have F_elements_r0_82 := F_elements_r0_79.other W82 (Or.inr (own_sn361 hw))
            have F_foundIn_r0_82 := F_foundIn_r0_79.other W82 (Or.inr (own_sn362 hw))
            have F_next_r0_82 := F_next_r0_79.other W82 (Or.inr (own_sn363 hw))
            have F_found_r0_82 := F_found_r0_79.other W82 (Or.inr (own_sn364 hw))
            have F_bucketShift_r0_82 := F_bucketShift_r0_79.other W82 (Or.inr (own_sn365 hw))
            have F_bucketStart_r0_82 := F_bucketStart_r0_79.other W82 (Or.inr (own_sn366 hw))
            have E_r0_82 := E_r0_79.wr W82
            have F_search_r0_82 := F_search_r0_79.other W82 (Or.inr (own_sn367 hw))
            have F_firstOnly_r0_82 := F_firstOnly_r0_79.other W82 (Or.inr (own_sn368 hw))
            have F_forRuns_r0_82 := F_forRuns_r0_79.other W82 (Or.inr (own_sn369 hw))
            have F_runsLength_r0_82 := F_runsLength_r0_79.other W82 (Or.inr (own_sn370 hw))
            have A_xN_82 := A_xN_79.other W82 (Ne.symm (own_ne_arf E_r0_79 (hw _ (List.mem_of_getElem? (i := 5) rfl)) A_xN_79))
            have A_xF_82 := A_xF_79.other W82 (Ne.symm (own_ne_arf E_r0_79 (hw _ (List.mem_of_getElem? (i := 5) rfl)) A_xF_79))
            have A_xX_82 := A_xX_79.other W82 (Ne.symm (own_ne_arf E_r0_79 (hw _ (List.mem_of_getElem? (i := 5) rfl)) A_xX_79))
            have A_xD_82 := A_xD_79.other W82 (Ne.symm (own_ne_arf E_r0_79 (hw _ (List.mem_of_getElem? (i := 5) rfl)) A_xD_79))
            have A_xB_82 := A_xB_79.other W82 (Ne.symm (own_ne_arf E_r0_79 (hw _ (List.mem_of_getElem? (i := 5) rfl)) A_xB_79))
            have K82 := K79.wr W82 (Or.inl (List.mem_of_getElem? (i := 0) rfl))
            have N82 := Fr.snoc X82 N79 ge_r0
            have Z82 : n0 ≤ h82.size := Nat.le_trans Z79 (Keep.of_wr W82).1
            have F_foundCount_r0_82 := F_foundCount_r0_79.same W82
            refine own_go (fun tg k => st82 tg k) ?_
            show own_Fin _ _ _ _ _ _ _ (T82.setTop (mkF m 61 #[.val (.ref r0), .val (.int p1), .val (.int p2), .val (.int (2 : Int32)), .val (.int (2 : Int32))] [(.int (1 : Int32)), (.ref xD)]))
            refine own_go (fun _ k => XS.iloadN X82.here hx rfl (hb hby d9_61) rfl k) ?_
            obtain ⟨T83, h83, X83, e83, W83, A_xD_83, st83⟩ := own_stI X82 hx hZ e82 A_xD_82 (j := (1 : Int32)) ⟨by decide, by decide⟩ (g := (mkF m 62 #[.val (.ref r0), .val (.int p1), .val (.int p2), .val (.int (2 : Int32)), .val (.int (2 : Int32))] [(.int (2 : Int32)), (.int (1 : Int32)), (.ref xD)])) rfl rfl (hb hby d9_62)
            have F_numbers_r0_83 := F_numbers_r0_82.other W83 (Or.inl (own_ne_arf E_r0_82 (hw _ (List.mem_of_getElem? (i := 5) rfl)) A_xD_82))
            have F_elements_r0_83 := F_elements_r0_82.other W83 (Or.inl (own_ne_arf E_r0_82 (hw _ (List.mem_of_getElem? (i := 5) rfl)) A_xD_82))
            have F_foundIn_r0_83 := F_foundIn_r0_82.other W83 (Or.inl (own_ne_arf E_r0_82 (hw _ (List.mem_of_getElem? (i := 5) rfl)) A_xD_82))
            have F_next_r0_83 := F_next_r0_82.other W83 (Or.inl (own_ne_arf E_r0_82 (hw _ (List.mem_of_getElem? (i := 5) rfl)) A_xD_82))
            have F_found_r0_83 := F_found_r0_82.other W83 (Or.inl (own_ne_arf E_r0_82 (hw _ (List.mem_of_getElem? (i := 5) rfl)) A_xD_82))
            have F_bucketShift_r0_83 := F_bucketShift_r0_82.other W83 (Or.inl (own_ne_arf E_r0_82 (hw _ (List.mem_of_getElem? (i := 5) rfl)) A_xD_82))
            have F_bucketStart_r0_83 := F_bucketStart_r0_82.other W83 (Or.inl (own_ne_arf E_r0_82 (hw _ (List.mem_of_getElem? (i := 5) rfl)) A_xD_82))
            have E_r0_83 := E_r0_82.wr W83
            have F_search_r0_83 := F_search_r0_82.other W83 (Or.inl (own_ne_arf E_r0_82 (hw _ (List.mem_of_getElem? (i := 5) rfl)) A_xD_82))
            have F_foundCount_r0_83 := F_foundCount_r0_82.other W83 (Or.inl (own_ne_arf E_r0_82 (hw _ (List.mem_of_getElem? (i := 5) rfl)) A_xD_82))
            have F_firstOnly_r0_83 := F_firstOnly_r0_82.other W83 (Or.inl (own_ne_arf E_r0_82 (hw _ (List.mem_of_getElem? (i := 5) rfl)) A_xD_82))
            have F_forRuns_r0_83 := F_forRuns_r0_82.other W83 (Or.inl (own_ne_arf E_r0_82 (hw _ (List.mem_of_getElem? (i := 5) rfl)) A_xD_82))
            have F_runsLength_r0_83 := F_runsLength_r0_82.other W83 (Or.inl (own_ne_arf E_r0_82 (hw _ (List.mem_of_getElem? (i := 5) rfl)) A_xD_82))
            have A_xN_83 := A_xN_82.other W83 ne_xN_xD
            have A_xF_83 := A_xF_82.other W83 ne_xF_xD
            have A_xX_83 := A_xX_82.other W83 ne_xX_xD
            have A_xB_83 := A_xB_82.other W83 (Ne.symm ne_xD_xB)
            have K83 := K82.wr W83 (Or.inl (List.mem_of_getElem? (i := 3) rfl))
            have N83 := Fr.snoc X83 N82 ge_xD
            have Z83 : n0 ≤ h83.size := Nat.le_trans Z82 (Keep.of_wr W83).1
            obtain ⟨f83, hf83⟩ : ∃ z, z = (own_set f67 (1 : Int32) (2 : Int32)) := ⟨_, rfl⟩
            rw [← hf83] at A_xD_83
            refine own_go (fun tg k => st83 tg k) ?_
            show own_Fin _ _ _ _ _ _ _ (T83.setTop (mkF m 63 #[.val (.ref r0), .val (.int p1), .val (.int p2), .val (.int (2 : Int32)), .val (.int (2 : Int32))] []))
            refine own_go (fun _ k => XS.aloadN X83.here hx rfl (hb hby d9_63) rfl rfl k) ?_
            refine own_go (fun _ k => XS.iloadN X83.here hx rfl (hb hby d9_64) rfl k) ?_
            refine own_go (fun _ k => XS.iconst X83.here hx rfl (hb hby d9_65) k) ?_
            refine own_go (fun _ k => XS.iadd X83.here hx rfl (hb hby d9_66) rfl k) ?_
            show own_Fin _ _ _ _ _ _ _ (T83.setTop (mkF m 67 #[.val (.ref r0), .val (.int p1), .val (.int p2), .val (.int (2 : Int32)), .val (.int (2 : Int32))] [(.int (3 : Int32)), (.ref r0)]))
            obtain ⟨cq84, q84, q84'⟩ := E_r0_83.cell
            obtain ⟨_, _, ⟨T84, L84, k84, n84⟩, -, X84, ⟨Lc84, hQ84, l84, y84, z84⟩, st84⟩ := X83.privateBack hx (y := (⟨"com/example/reachability/reachability/CandidateList", "open", "(I)I"⟩ : MethodName)) hown (mvT hZ (hw _ (List.mem_of_getElem? (i := 74) rfl))) (mvT hZ (hw _ (List.mem_of_getElem? (i := 75) rfl))) (own_selpriv (z := (⟨"com/example/reachability/reachability/CandidateList", "satisfied", "()Z"⟩ : MethodName)) rfl (mvT (args := #[]) hZ (hw _ (List.mem_of_getElem? (i := 45) rfl))) (Cond.privateMethod_at (mvP hZ (hw _ (List.mem_of_getElem? (i := 76) rfl)) (args := #[]))) (mvT hZ (hw _ (List.mem_of_getElem? (i := 75) rfl))) (by decide)) (Cond.privateMethod_at (mvP hZ (hw _ (List.mem_of_getElem? (i := 76) rfl)) (args := #[]))) (mvT hZ (hw _ (List.mem_of_getElem? (i := 77) rfl))) (by decide) (backOf (W := 0) (rm12f l Z a0 hw [] r0 (3 : Int32) xN gN xF f79 se h83 n0 Z83 F_numbers_r0_83 A_xN_83 F_foundIn_r0_83 A_xF_83 F_search_r0_83 ⟨by decide, fun q => absurd q (by decide)⟩) hZ (hw _ (List.mem_of_getElem? (i := 77) rfl)) (hw _ (List.mem_of_getElem? (i := 6) rfl)) (by decide) (by decide)) (g := (mkF m 67 #[.val (.ref r0), .val (.int p1), .val (.int p2), .val (.int (2 : Int32)), .val (.int (2 : Int32))] [(.int (3 : Int32)), (.ref r0)])) rfl (by rw [hml]; rfl) (Steps.refl _) (a := r0) (by rw [e83]; exact q84) q84' (argsL := [(.int (3 : Int32))]) (rest := []) (lenOf own_pd428 rfl) rfl (by show 2 * 0 + _ ≤ _; exact Nat.le_of_eq rfl) (hb hby d9_67) (fun _ _ => ⟨rfl, e83, (by decide : 0 + 0 ≤ _), (by decide : 0 + 0 ≤ _)⟩)
            dsimp only [Pt.U, Pt.locs, Pt.cells, Pt.slots] at X84 l84 y84 z84 st84 hQ84
            replace y84 : 0 = k84 := y84.symm
            replace z84 : 0 = n84 := z84.symm
            subst y84 z84
            obtain ⟨rfl, N84q, e84⟩ := hQ84
            have N84 : Fr n0 L84 := by rw [l84]; exact Fr.app N83 N84q
            refine own_go (fun tg k => st84.trans k) ?_
            show own_Fin _ _ _ _ _ _ _ (T84.setTop (mkF m 70 #[.val (.ref r0), .val (.int p1), .val (.int p2), .val (.int (2 : Int32)), .val (.int (2 : Int32))] [(.int (3 : Int32))]))
            refine own_go (fun _ k => XS.istore X84.here hx rfl (hb hby d9_70) rfl (l' := #[.val (.ref r0), .val (.int p1), .val (.int p2), .val (.int (2 : Int32)), .val (.int (3 : Int32))]) rfl k) ?_
            show own_Fin _ _ _ _ _ _ _ (T84.setTop (mkF m 72 #[.val (.ref r0), .val (.int p1), .val (.int p2), .val (.int (2 : Int32)), .val (.int (3 : Int32))] []))
            refine own_go (fun _ k => XS.aloadN X84.here hx rfl (hb hby d9_72) rfl rfl k) ?_
            obtain ⟨T85, X85, e85, st85⟩ := getF X84 hx hZ hown (host := "") (Or.inl (hw _ (List.mem_of_getElem? (i := 24) rfl))) Via.refl e84 F_next_r0_83 (g := (mkF m 73 #[.val (.ref r0), .val (.int p1), .val (.int p2), .val (.int (2 : Int32)), .val (.int (3 : Int32))] [(.ref r0)])) rfl rfl (hb hby d9_73)
            refine own_go (fun tg k => st85 tg k) ?_
            show own_Fin _ _ _ _ _ _ _ (T85.setTop (mkF m 76 #[.val (.ref r0), .val (.int p1), .val (.int p2), .val (.int (2 : Int32)), .val (.int (3 : Int32))] [(.ref xX)]))
            refine own_go (fun _ k => XS.iloadN X85.here hx rfl (hb hby d9_76) rfl k) ?_
            refine own_go (fun _ k => XS.iload X85.here hx rfl (hb hby d9_77) rfl k) ?_
            obtain ⟨T86, h86, X86, e86, W86, A_xX_86, st86⟩ := own_stI X85 hx hZ e85 A_xX_83 (j := (2 : Int32)) ⟨by decide, by decide⟩ (g := (mkF m 79 #[.val (.ref r0), .val (.int p1), .val (.int p2), .val (.int (2 : Int32)), .val (.int (3 : Int32))] [(.int (3 : Int32)), (.int (2 : Int32)), (.ref xX)])) rfl rfl (hb hby d9_79)
            have F_numbers_r0_86 := F_numbers_r0_83.other W86 (Or.inl (own_ne_arf E_r0_83 (hw _ (List.mem_of_getElem? (i := 5) rfl)) A_xX_83))
            have F_elements_r0_86 := F_elements_r0_83.other W86 (Or.inl (own_ne_arf E_r0_83 (hw _ (List.mem_of_getElem? (i := 5) rfl)) A_xX_83))
            have F_foundIn_r0_86 := F_foundIn_r0_83.other W86 (Or.inl (own_ne_arf E_r0_83 (hw _ (List.mem_of_getElem? (i := 5) rfl)) A_xX_83))
            have F_next_r0_86 := F_next_r0_83.other W86 (Or.inl (own_ne_arf E_r0_83 (hw _ (List.mem_of_getElem? (i := 5) rfl)) A_xX_83))
            have F_found_r0_86 := F_found_r0_83.other W86 (Or.inl (own_ne_arf E_r0_83 (hw _ (List.mem_of_getElem? (i := 5) rfl)) A_xX_83))
            have F_bucketShift_r0_86 := F_bucketShift_r0_83.other W86 (Or.inl (own_ne_arf E_r0_83 (hw _ (List.mem_of_getElem? (i := 5) rfl)) A_xX_83))
            have F_bucketStart_r0_86 := F_bucketStart_r0_83.other W86 (Or.inl (own_ne_arf E_r0_83 (hw _ (List.mem_of_getElem? (i := 5) rfl)) A_xX_83))
            have E_r0_86 := E_r0_83.wr W86
            have F_search_r0_86 := F_search_r0_83.other W86 (Or.inl (own_ne_arf E_r0_83 (hw _ (List.mem_of_getElem? (i := 5) rfl)) A_xX_83))
            have F_foundCount_r0_86 := F_foundCount_r0_83.other W86 (Or.inl (own_ne_arf E_r0_83 (hw _ (List.mem_of_getElem? (i := 5) rfl)) A_xX_83))
            have F_firstOnly_r0_86 := F_firstOnly_r0_83.other W86 (Or.inl (own_ne_arf E_r0_83 (hw _ (List.mem_of_getElem? (i := 5) rfl)) A_xX_83))
            have F_forRuns_r0_86 := F_forRuns_r0_83.other W86 (Or.inl (own_ne_arf E_r0_83 (hw _ (List.mem_of_getElem? (i := 5) rfl)) A_xX_83))
            have F_runsLength_r0_86 := F_runsLength_r0_83.other W86 (Or.inl (own_ne_arf E_r0_83 (hw _ (List.mem_of_getElem? (i := 5) rfl)) A_xX_83))
            have A_xN_86 := A_xN_83.other W86 ne_xN_xX
            have A_xF_86 := A_xF_83.other W86 ne_xF_xX
            have A_xD_86 := A_xD_83.other W86 (Ne.symm ne_xX_xD)
            have A_xB_86 := A_xB_83.other W86 (Ne.symm ne_xX_xB)
            have K86 := K83.wr W86 (Or.inl (List.mem_of_getElem? (i := 2) rfl))
            have N86 := Fr.snoc X86 N84 ge_xX
            have Z86 : n0 ≤ h86.size := Nat.le_trans Z83 (Keep.of_wr W86).1
            obtain ⟨f86, hf86⟩ : ∃ z, z = (own_set f70 (2 : Int32) (3 : Int32)) := ⟨_, rfl⟩
            rw [← hf86] at A_xX_86
            refine own_go (fun tg k => st86 tg k) ?_
            show own_Fin _ _ _ _ _ _ _ (T86.setTop (mkF m 80 #[.val (.ref r0), .val (.int p1), .val (.int p2), .val (.int (2 : Int32)), .val (.int (3 : Int32))] []))
            refine own_go (fun _ k => XS.iload X86.here hx rfl (hb hby d9_80) rfl k) ?_
            refine own_go (fun _ k => XS.istoreN X86.here hx rfl (hb hby d9_82) rfl (l' := #[.val (.ref r0), .val (.int p1), .val (.int p2), .val (.int (3 : Int32)), .val (.int (3 : Int32))]) rfl k) ?_
            show own_Fin _ _ _ _ _ _ _ (T86.setTop (mkF m 83 #[.val (.ref r0), .val (.int p1), .val (.int p2), .val (.int (3 : Int32)), .val (.int (3 : Int32))] []))
            refine own_go (fun _ k => XS.goto X86.here hx rfl (pc0 := 83) (pc' := 10) rfl (hb hby d9_83) (by decide) (by decide) k) ?_
            show own_Fin _ _ _ _ _ _ _ (T86.setTop (mkF m 10 #[.val (.ref r0), .val (.int p1), .val (.int p2), .val (.int (3 : Int32)), .val (.int (3 : Int32))] []))
            refine own_go (fun _ k => XS.iloadN X86.here hx rfl (hb hby d9_10) rfl k) ?_
            refine own_go (fun _ k => XS.aloadN X86.here hx rfl (hb hby d9_11) rfl rfl k) ?_
            obtain ⟨T87, X87, e87, st87⟩ := getF X86 hx hZ hown (host := "") (Or.inl (hw _ (List.mem_of_getElem? (i := 18) rfl))) Via.refl e86 F_numbers_r0_86 (g := (mkF m 12 #[.val (.ref r0), .val (.int p1), .val (.int p2), .val (.int (3 : Int32)), .val (.int (3 : Int32))] [(.ref r0), (.int (3 : Int32))])) rfl rfl (hb hby d9_12)
            refine own_go (fun tg k => st87 tg k) ?_
            show own_Fin _ _ _ _ _ _ _ (T87.setTop (mkF m 15 #[.val (.ref r0), .val (.int p1), .val (.int p2), .val (.int (3 : Int32)), .val (.int (3 : Int32))] [(.ref xN), (.int (3 : Int32))]))
            refine own_go (fun tg k => own_alen X87 hx hZ e87 A_xN_86 (g := (mkF m 15 #[.val (.ref r0), .val (.int p1), .val (.int p2), .val (.int (3 : Int32)), .val (.int (3 : Int32))] [(.ref xN), (.int (3 : Int32))])) rfl rfl (hb hby d9_15) tg k) ?_
            show own_Fin _ _ _ _ _ _ _ (T87.setTop (mkF m 16 #[.val (.ref r0), .val (.int p1), .val (.int p2), .val (.int (3 : Int32)), .val (.int (3 : Int32))] [(.int (3 : Int32)), (.int (3 : Int32))]))
            refine own_go (fun _ k => XS.icmpYes X87.here hx rfl (pc0 := 16) (pc' := 86) rfl (hb hby d9_16) rfl (flt (by decide)).2.1 (by decide) (by decide) k) ?_
            show own_Fin _ _ _ _ _ _ _ (T87.setTop (mkF m 86 #[.val (.ref r0), .val (.int p1), .val (.int p2), .val (.int (3 : Int32)), .val (.int (3 : Int32))] []))
            refine own_go (fun _ k => XS.aloadN X87.here hx rfl (hb hby d9_86) rfl rfl k) ?_
            refine own_go (fun _ k => XS.iloadN X87.here hx rfl (hb hby d9_87) rfl k) ?_
            obtain ⟨cq88, q88, q88'⟩ := E_r0_86.cell
            obtain ⟨_, _, ⟨T88, L88, k88, n88⟩, -, X88, ⟨Lc88, hQ88, l88, y88, z88⟩, st88⟩ := X87.privateBack hx (y := (⟨"com/example/reachability/reachability/CandidateList", "numberOf", "(I)I"⟩ : MethodName)) hown (mvT hZ (hw _ (List.mem_of_getElem? (i := 78) rfl))) (mvT hZ (hw _ (List.mem_of_getElem? (i := 79) rfl))) (own_selpriv (z := (⟨"com/example/reachability/reachability/CandidateList", "satisfied", "()Z"⟩ : MethodName)) rfl (mvT (args := #[]) hZ (hw _ (List.mem_of_getElem? (i := 45) rfl))) (Cond.privateMethod_at (mvP hZ (hw _ (List.mem_of_getElem? (i := 80) rfl)) (args := #[]))) (mvT hZ (hw _ (List.mem_of_getElem? (i := 79) rfl))) (by decide)) (Cond.privateMethod_at (mvP hZ (hw _ (List.mem_of_getElem? (i := 80) rfl)) (args := #[]))) (mvT hZ (hw _ (List.mem_of_getElem? (i := 81) rfl))) (by decide) (backOf (W := 0) (rm13 l Z a0 hw [] r0 (3 : Int32) xN gN h86 n0 Z86 F_numbers_r0_86 A_xN_86 (by decide)) hZ (hw _ (List.mem_of_getElem? (i := 81) rfl)) (hw _ (List.mem_of_getElem? (i := 6) rfl)) (by decide) (by decide)) (g := (mkF m 88 #[.val (.ref r0), .val (.int p1), .val (.int p2), .val (.int (3 : Int32)), .val (.int (3 : Int32))] [(.int (3 : Int32)), (.ref r0)])) rfl (by rw [hml]; rfl) (Steps.refl _) (a := r0) (by rw [e87]; exact q88) q88' (argsL := [(.int (3 : Int32))]) (rest := []) (lenOf own_pd428 rfl) rfl (by show 2 * 0 + _ ≤ _; exact Nat.le_of_eq rfl) (hb hby d9_88) (fun _ _ => ⟨rfl, e87, (by decide : 0 + 0 ≤ _), (by decide : 0 + 0 ≤ _)⟩)
            dsimp only [Pt.U, Pt.locs, Pt.cells, Pt.slots] at X88 l88 y88 z88 st88 hQ88
            replace y88 : 0 = k88 := y88.symm
            replace z88 : 0 = n88 := z88.symm
            subst y88 z88
            obtain ⟨rfl, N88q, e88⟩ := hQ88
            have N88 : Fr n0 L88 := by rw [l88]; exact Fr.app N86 N88q
            refine own_go (fun tg k => st88.trans k) ?_
            show own_Fin _ _ _ _ _ _ _ (T88.setTop (mkF m 91 #[.val (.ref r0), .val (.int p1), .val (.int p2), .val (.int (3 : Int32)), .val (.int (3 : Int32))] [(.int (own_f13 (3 : Int32) gN))]))
            refine own_ret X88 hx hlk Bd.returns rfl (Or.inl ⟨rfl, by simp, _, rfl⟩) (hb hby d9_91) (Nat.le_of_ble_eq_true rfl) (Nat.le_of_ble_eq_true rfl) ?_
            rw [e88]
            refine ⟨(own_lf_own_f9f_41 (p1 := p1) (p2 := p2) (sh := sh) (se := se) (fo := fo) (fr := fr) (rl := rl) (gN := gN) (gF := gF) (gX := gX) (gD := gD) (nB := nB) (gB := gB) hs3 hs55 hc58 hc73 hc76), N88, K86, ?_, ?_, ?_, ?_, ?_, ?_, ?_, E_r0_86, ?_, (by rw [← (own_lf_own_f9f_42 (p1 := p1) (p2 := p2) (sh := sh) (se := se) (fo := fo) (fr := fr) (rl := rl) (gN := gN) (gF := gF) (gX := gX) (gD := gD) (nB := nB) (gB := gB) hs3 hs55 hc58 hc73 hc76)]; exact F_foundCount_r0_86), ?_, ?_, ?_, (by rw [← (own_lf_own_f9f_43 (p1 := p1) (p2 := p2) (sh := sh) (se := se) (fo := fo) (fr := fr) (rl := rl) (gN := gN) (gF := gF) (gX := gX) (gD := gD) (nB := nB) (gB := gB) hf63 hf79 hs3 hs55 hc58 hc73 hc76)]; exact A_xF_86), (by rw [← (own_lf_own_f9f_44 (p1 := p1) (p2 := p2) (sh := sh) (se := se) (fo := fo) (fr := fr) (rl := rl) (gN := gN) (gF := gF) (gX := gX) (gD := gD) (nB := nB) (gB := gB) hf70 hf86 hs3 hs55 hc58 hc73 hc76)]; exact A_xX_86), (by rw [← (own_lf_own_f9f_45 (p1 := p1) (p2 := p2) (sh := sh) (se := se) (fo := fo) (fr := fr) (rl := rl) (gN := gN) (gF := gF) (gX := gX) (gD := gD) (nB := nB) (gB := gB) hf67 hf83 hs3 hs55 hc58 hc73 hc76)]; exact A_xD_86)⟩
            all_goals try subst hf86
            all_goals try subst hf83
            all_goals try subst hf79
            all_goals try subst hf70
            all_goals try subst hf67
            all_goals try subst hf63
            · first | (exact F_numbers_r0_86) | (simp only [if_neg hs3, if_pos hs55, if_neg hc58, if_neg hc73, if_pos hc76]; exact F_numbers_r0_86)
            · first | (exact F_elements_r0_86) | (simp only [if_neg hs3, if_pos hs55, if_neg hc58, if_neg hc73, if_pos hc76]; exact F_elements_r0_86)
            · first | (exact F_foundIn_r0_86) | (simp only [if_neg hs3, if_pos hs55, if_neg hc58, if_neg hc73, if_pos hc76]; exact F_foundIn_r0_86)
            · first | (exact F_next_r0_86) | (simp only [if_neg hs3, if_pos hs55, if_neg hc58, if_neg hc73, if_pos hc76]; exact F_next_r0_86)
            · first | (exact F_found_r0_86) | (simp only [if_neg hs3, if_pos hs55, if_neg hc58, if_neg hc73, if_pos hc76]; exact F_found_r0_86)
            · first | (exact F_bucketShift_r0_86) | (simp only [if_neg hs3, if_pos hs55, if_neg hc58, if_neg hc73, if_pos hc76]; exact F_bucketShift_r0_86)
            · first | (exact F_bucketStart_r0_86) | (simp only [if_neg hs3, if_pos hs55, if_neg hc58, if_neg hc73, if_pos hc76]; exact F_bucketStart_r0_86)
            · first | (exact F_search_r0_86) | (simp only [if_neg hs3, if_pos hs55, if_neg hc58, if_neg hc73, if_pos hc76]; exact F_search_r0_86)
            · first | (exact F_firstOnly_r0_86) | (simp only [if_neg hs3, if_pos hs55, if_neg hc58, if_neg hc73, if_pos hc76]; exact F_firstOnly_r0_86)
            · first | (exact F_forRuns_r0_86) | (simp only [if_neg hs3, if_pos hs55, if_neg hc58, if_neg hc73, if_pos hc76]; exact F_forRuns_r0_86)
            · first | (exact F_runsLength_r0_86) | (simp only [if_neg hs3, if_pos hs55, if_neg hc58, if_neg hc73, if_pos hc76]; exact F_runsLength_r0_86)
          · refine own_go (fun _ k => XS.ifYes X75.here hx rfl (pc0 := 33) (pc' := 86) rfl (hb hby d9_33) rfl ((if0 _ _).trans (feq hc76).2) (by decide) (by decide) k) ?_
            show own_Fin _ _ _ _ _ _ _ (T75.setTop (mkF m 86 #[.val (.ref r0), .val (.int p1), .val (.int p2), .val (.int (2 : Int32)), .val (.int (2 : Int32))] []))
            refine own_go (fun _ k => XS.aloadN X75.here hx rfl (hb hby d9_86) rfl rfl k) ?_
            refine own_go (fun _ k => XS.iloadN X75.here hx rfl (hb hby d9_87) rfl k) ?_
            obtain ⟨cq89, q89, q89'⟩ := E_r0_70.cell
            obtain ⟨_, _, ⟨T89, L89, k89, n89⟩, -, X89, ⟨Lc89, hQ89, l89, y89, z89⟩, st89⟩ := X75.privateBack hx (y := (⟨"com/example/reachability/reachability/CandidateList", "numberOf", "(I)I"⟩ : MethodName)) hown (mvT hZ (hw _ (List.mem_of_getElem? (i := 78) rfl))) (mvT hZ (hw _ (List.mem_of_getElem? (i := 79) rfl))) (own_selpriv (z := (⟨"com/example/reachability/reachability/CandidateList", "satisfied", "()Z"⟩ : MethodName)) rfl (mvT (args := #[]) hZ (hw _ (List.mem_of_getElem? (i := 45) rfl))) (Cond.privateMethod_at (mvP hZ (hw _ (List.mem_of_getElem? (i := 80) rfl)) (args := #[]))) (mvT hZ (hw _ (List.mem_of_getElem? (i := 79) rfl))) (by decide)) (Cond.privateMethod_at (mvP hZ (hw _ (List.mem_of_getElem? (i := 80) rfl)) (args := #[]))) (mvT hZ (hw _ (List.mem_of_getElem? (i := 81) rfl))) (by decide) (backOf (W := 0) (rm13 l Z a0 hw [] r0 (2 : Int32) xN gN h70 n0 Z70 F_numbers_r0_70 A_xN_70 (by decide)) hZ (hw _ (List.mem_of_getElem? (i := 81) rfl)) (hw _ (List.mem_of_getElem? (i := 6) rfl)) (by decide) (by decide)) (g := (mkF m 88 #[.val (.ref r0), .val (.int p1), .val (.int p2), .val (.int (2 : Int32)), .val (.int (2 : Int32))] [(.int (2 : Int32)), (.ref r0)])) rfl (by rw [hml]; rfl) (Steps.refl _) (a := r0) (by rw [e75]; exact q89) q89' (argsL := [(.int (2 : Int32))]) (rest := []) (lenOf own_pd428 rfl) rfl (by show 2 * 0 + _ ≤ _; exact Nat.le_of_eq rfl) (hb hby d9_88) (fun _ _ => ⟨rfl, e75, (by decide : 0 + 0 ≤ _), (by decide : 0 + 0 ≤ _)⟩)
            dsimp only [Pt.U, Pt.locs, Pt.cells, Pt.slots] at X89 l89 y89 z89 st89 hQ89
            replace y89 : 0 = k89 := y89.symm
            replace z89 : 0 = n89 := z89.symm
            subst y89 z89
            obtain ⟨rfl, N89q, e89⟩ := hQ89
            have N89 : Fr n0 L89 := by rw [l89]; exact Fr.app N75 N89q
            refine own_go (fun tg k => st89.trans k) ?_
            show own_Fin _ _ _ _ _ _ _ (T89.setTop (mkF m 91 #[.val (.ref r0), .val (.int p1), .val (.int p2), .val (.int (2 : Int32)), .val (.int (2 : Int32))] [(.int (own_f13 (2 : Int32) gN))]))
            refine own_ret X89 hx hlk Bd.returns rfl (Or.inl ⟨rfl, by simp, _, rfl⟩) (hb hby d9_91) (Nat.le_of_ble_eq_true rfl) (Nat.le_of_ble_eq_true rfl) ?_
            rw [e89]
            refine ⟨(own_lf_own_f9f_46 (p1 := p1) (p2 := p2) (sh := sh) (se := se) (fo := fo) (fr := fr) (rl := rl) (gN := gN) (gF := gF) (gX := gX) (gD := gD) (nB := nB) (gB := gB) hs3 hs55 hc58 hc73 hc76), N89, K70, ?_, ?_, ?_, ?_, ?_, ?_, ?_, E_r0_70, ?_, (by rw [← (own_lf_own_f9f_47 (p1 := p1) (p2 := p2) (sh := sh) (se := se) (fo := fo) (fr := fr) (rl := rl) (gN := gN) (gF := gF) (gX := gX) (gD := gD) (nB := nB) (gB := gB) hs3 hs55 hc58 hc73 hc76)]; exact F_foundCount_r0_70), ?_, ?_, ?_, (by rw [← (own_lf_own_f9f_48 (p1 := p1) (p2 := p2) (sh := sh) (se := se) (fo := fo) (fr := fr) (rl := rl) (gN := gN) (gF := gF) (gX := gX) (gD := gD) (nB := nB) (gB := gB) hf63 hs3 hs55 hc58 hc73 hc76)]; exact A_xF_70), (by rw [← (own_lf_own_f9f_49 (p1 := p1) (p2 := p2) (sh := sh) (se := se) (fo := fo) (fr := fr) (rl := rl) (gN := gN) (gF := gF) (gX := gX) (gD := gD) (nB := nB) (gB := gB) hf70 hs3 hs55 hc58 hc73 hc76)]; exact A_xX_70), (by rw [← (own_lf_own_f9f_50 (p1 := p1) (p2 := p2) (sh := sh) (se := se) (fo := fo) (fr := fr) (rl := rl) (gN := gN) (gF := gF) (gX := gX) (gD := gD) (nB := nB) (gB := gB) hf67 hs3 hs55 hc58 hc73 hc76)]; exact A_xD_70)⟩
            all_goals try subst hf70
            all_goals try subst hf67
            all_goals try subst hf63
            · first | (exact F_numbers_r0_70) | (simp only [if_neg hs3, if_pos hs55, if_neg hc58, if_neg hc73, if_neg hc76]; exact F_numbers_r0_70)
            · first | (exact F_elements_r0_70) | (simp only [if_neg hs3, if_pos hs55, if_neg hc58, if_neg hc73, if_neg hc76]; exact F_elements_r0_70)
            · first | (exact F_foundIn_r0_70) | (simp only [if_neg hs3, if_pos hs55, if_neg hc58, if_neg hc73, if_neg hc76]; exact F_foundIn_r0_70)
            · first | (exact F_next_r0_70) | (simp only [if_neg hs3, if_pos hs55, if_neg hc58, if_neg hc73, if_neg hc76]; exact F_next_r0_70)
            · first | (exact F_found_r0_70) | (simp only [if_neg hs3, if_pos hs55, if_neg hc58, if_neg hc73, if_neg hc76]; exact F_found_r0_70)
            · first | (exact F_bucketShift_r0_70) | (simp only [if_neg hs3, if_pos hs55, if_neg hc58, if_neg hc73, if_neg hc76]; exact F_bucketShift_r0_70)
            · first | (exact F_bucketStart_r0_70) | (simp only [if_neg hs3, if_pos hs55, if_neg hc58, if_neg hc73, if_neg hc76]; exact F_bucketStart_r0_70)
            · first | (exact F_search_r0_70) | (simp only [if_neg hs3, if_pos hs55, if_neg hc58, if_neg hc73, if_neg hc76]; exact F_search_r0_70)
            · first | (exact F_firstOnly_r0_70) | (simp only [if_neg hs3, if_pos hs55, if_neg hc58, if_neg hc73, if_neg hc76]; exact F_firstOnly_r0_70)
            · first | (exact F_forRuns_r0_70) | (simp only [if_neg hs3, if_pos hs55, if_neg hc58, if_neg hc73, if_neg hc76]; exact F_forRuns_r0_70)
            · first | (exact F_runsLength_r0_70) | (simp only [if_neg hs3, if_pos hs55, if_neg hc58, if_neg hc73, if_neg hc76]; exact F_runsLength_r0_70)
    · by_cases hs90 : (own_f10 p1 sh nB gB gN) = (2 : Int32)
      · try rw [hs90]
        show own_Fin _ _ _ _ _ _ _ (T2.setTop (mkF m 9 #[.val (.ref r0), .val (.int p1), .val (.int p2), .unset, .unset] [(.int (2 : Int32))]))
        refine own_go (fun _ k => XS.istoreN X2.here hx rfl (hb hby d9_9) rfl (l' := #[.val (.ref r0), .val (.int p1), .val (.int p2), .val (.int (2 : Int32)), .unset]) rfl k) ?_
        show own_Fin _ _ _ _ _ _ _ (T2.setTop (mkF m 10 #[.val (.ref r0), .val (.int p1), .val (.int p2), .val (.int (2 : Int32)), .unset] []))
        refine own_go (fun _ k => XS.iloadN X2.here hx rfl (hb hby d9_10) rfl k) ?_
        refine own_go (fun _ k => XS.aloadN X2.here hx rfl (hb hby d9_11) rfl rfl k) ?_
        obtain ⟨T91, X91, e91, st91⟩ := getF X2 hx hZ hown (host := "") (Or.inl (hw _ (List.mem_of_getElem? (i := 18) rfl))) Via.refl e2 F_numbers_r0_0 (g := (mkF m 12 #[.val (.ref r0), .val (.int p1), .val (.int p2), .val (.int (2 : Int32)), .unset] [(.ref r0), (.int (2 : Int32))])) rfl rfl (hb hby d9_12)
        refine own_go (fun tg k => st91 tg k) ?_
        show own_Fin _ _ _ _ _ _ _ (T91.setTop (mkF m 15 #[.val (.ref r0), .val (.int p1), .val (.int p2), .val (.int (2 : Int32)), .unset] [(.ref xN), (.int (2 : Int32))]))
        refine own_go (fun tg k => own_alen X91 hx hZ e91 A_xN_0 (g := (mkF m 15 #[.val (.ref r0), .val (.int p1), .val (.int p2), .val (.int (2 : Int32)), .unset] [(.ref xN), (.int (2 : Int32))])) rfl rfl (hb hby d9_15) tg k) ?_
        show own_Fin _ _ _ _ _ _ _ (T91.setTop (mkF m 16 #[.val (.ref r0), .val (.int p1), .val (.int p2), .val (.int (2 : Int32)), .unset] [(.int (3 : Int32)), (.int (2 : Int32))]))
        refine own_go (fun _ k => XS.icmpNo X91.here hx rfl (hb hby d9_16) rfl (tlt (by decide)).2.1 k) ?_
        show own_Fin _ _ _ _ _ _ _ (T91.setTop (mkF m 19 #[.val (.ref r0), .val (.int p1), .val (.int p2), .val (.int (2 : Int32)), .unset] []))
        refine own_go (fun _ k => XS.aloadN X91.here hx rfl (hb hby d9_19) rfl rfl k) ?_
        obtain ⟨T92, X92, e92, st92⟩ := getF X91 hx hZ hown (host := "") (Or.inl (hw _ (List.mem_of_getElem? (i := 18) rfl))) Via.refl e91 F_numbers_r0_0 (g := (mkF m 20 #[.val (.ref r0), .val (.int p1), .val (.int p2), .val (.int (2 : Int32)), .unset] [(.ref r0)])) rfl rfl (hb hby d9_20)
        refine own_go (fun tg k => st92 tg k) ?_
        show own_Fin _ _ _ _ _ _ _ (T92.setTop (mkF m 23 #[.val (.ref r0), .val (.int p1), .val (.int p2), .val (.int (2 : Int32)), .unset] [(.ref xN)]))
        refine own_go (fun _ k => XS.iloadN X92.here hx rfl (hb hby d9_23) rfl k) ?_
        refine own_go (fun tg k => own_iaload X92 hx hZ e92 A_xN_0 (j := (2 : Int32)) ⟨by decide, by decide⟩ (x := (gN 2)) rfl (g := (mkF m 24 #[.val (.ref r0), .val (.int p1), .val (.int p2), .val (.int (2 : Int32)), .unset] [(.int (2 : Int32)), (.ref xN)])) rfl rfl (hb hby d9_24) tg k) ?_
        show own_Fin _ _ _ _ _ _ _ (T92.setTop (mkF m 25 #[.val (.ref r0), .val (.int p1), .val (.int p2), .val (.int (2 : Int32)), .unset] [(.int (gN 2))]))
        refine own_go (fun _ k => XS.iloadN X92.here hx rfl (hb hby d9_25) rfl k) ?_
        show own_Fin _ _ _ _ _ _ _ (T92.setTop (mkF m 26 #[.val (.ref r0), .val (.int p1), .val (.int p2), .val (.int (2 : Int32)), .unset] [(.int p2), (.int (gN 2))]))
        by_cases hc93 : p2 < (gN 2)
        · refine own_go (fun _ k => XS.icmpYes X92.here hx rfl (pc0 := 26) (pc' := 86) rfl (hb hby d9_26) rfl (tlt hc93).2.2.1 (by decide) (by decide) k) ?_
          show own_Fin _ _ _ _ _ _ _ (T92.setTop (mkF m 86 #[.val (.ref r0), .val (.int p1), .val (.int p2), .val (.int (2 : Int32)), .unset] []))
          refine own_go (fun _ k => XS.aloadN X92.here hx rfl (hb hby d9_86) rfl rfl k) ?_
          refine own_go (fun _ k => XS.iloadN X92.here hx rfl (hb hby d9_87) rfl k) ?_
          obtain ⟨cq94, q94, q94'⟩ := E_r0_0.cell
          obtain ⟨_, _, ⟨T94, L94, k94, n94⟩, -, X94, ⟨Lc94, hQ94, l94, y94, z94⟩, st94⟩ := X92.privateBack hx (y := (⟨"com/example/reachability/reachability/CandidateList", "numberOf", "(I)I"⟩ : MethodName)) hown (mvT hZ (hw _ (List.mem_of_getElem? (i := 78) rfl))) (mvT hZ (hw _ (List.mem_of_getElem? (i := 79) rfl))) (own_selpriv (z := (⟨"com/example/reachability/reachability/CandidateList", "satisfied", "()Z"⟩ : MethodName)) rfl (mvT (args := #[]) hZ (hw _ (List.mem_of_getElem? (i := 45) rfl))) (Cond.privateMethod_at (mvP hZ (hw _ (List.mem_of_getElem? (i := 80) rfl)) (args := #[]))) (mvT hZ (hw _ (List.mem_of_getElem? (i := 79) rfl))) (by decide)) (Cond.privateMethod_at (mvP hZ (hw _ (List.mem_of_getElem? (i := 80) rfl)) (args := #[]))) (mvT hZ (hw _ (List.mem_of_getElem? (i := 81) rfl))) (by decide) (backOf (W := 0) (rm13 l Z a0 hw [] r0 (2 : Int32) xN gN h0 n0 Z0 F_numbers_r0_0 A_xN_0 (by decide)) hZ (hw _ (List.mem_of_getElem? (i := 81) rfl)) (hw _ (List.mem_of_getElem? (i := 6) rfl)) (by decide) (by decide)) (g := (mkF m 88 #[.val (.ref r0), .val (.int p1), .val (.int p2), .val (.int (2 : Int32)), .unset] [(.int (2 : Int32)), (.ref r0)])) rfl (by rw [hml]; rfl) (Steps.refl _) (a := r0) (by rw [e92]; exact q94) q94' (argsL := [(.int (2 : Int32))]) (rest := []) (lenOf own_pd428 rfl) rfl (by show 2 * 0 + _ ≤ _; exact Nat.le_of_eq rfl) (hb hby d9_88) (fun _ _ => ⟨rfl, e92, (by decide : 0 + 0 ≤ _), (by decide : 0 + 0 ≤ _)⟩)
          dsimp only [Pt.U, Pt.locs, Pt.cells, Pt.slots] at X94 l94 y94 z94 st94 hQ94
          replace y94 : 0 = k94 := y94.symm
          replace z94 : 0 = n94 := z94.symm
          subst y94 z94
          obtain ⟨rfl, N94q, e94⟩ := hQ94
          have N94 : Fr n0 L94 := by rw [l94]; exact Fr.app N2 N94q
          refine own_go (fun tg k => st94.trans k) ?_
          show own_Fin _ _ _ _ _ _ _ (T94.setTop (mkF m 91 #[.val (.ref r0), .val (.int p1), .val (.int p2), .val (.int (2 : Int32)), .unset] [(.int (own_f13 (2 : Int32) gN))]))
          refine own_ret X94 hx hlk Bd.returns rfl (Or.inl ⟨rfl, by simp, _, rfl⟩) (hb hby d9_91) (Nat.le_of_ble_eq_true rfl) (Nat.le_of_ble_eq_true rfl) ?_
          rw [e94]
          refine ⟨(own_lf_own_f9f_51 (p1 := p1) (p2 := p2) (sh := sh) (se := se) (fo := fo) (fr := fr) (rl := rl) (gN := gN) (gF := gF) (gX := gX) (gD := gD) (nB := nB) (gB := gB) hs3 hs55 hs90 hc93), N94, K0, ?_, ?_, ?_, ?_, ?_, ?_, ?_, E_r0_0, ?_, (by rw [← (own_lf_own_f9f_52 (p1 := p1) (p2 := p2) (sh := sh) (se := se) (fo := fo) (fr := fr) (rl := rl) (gN := gN) (gF := gF) (gX := gX) (gD := gD) (nB := nB) (gB := gB) hs3 hs55 hs90 hc93)]; exact F_foundCount_r0_0), ?_, ?_, ?_, (by rw [← (own_lf_own_f9f_53 (p1 := p1) (p2 := p2) (sh := sh) (se := se) (fo := fo) (fr := fr) (rl := rl) (gN := gN) (gF := gF) (gX := gX) (gD := gD) (nB := nB) (gB := gB) hs3 hs55 hs90 hc93)]; exact A_xF_0), (by rw [← (own_lf_own_f9f_54 (p1 := p1) (p2 := p2) (sh := sh) (se := se) (fo := fo) (fr := fr) (rl := rl) (gN := gN) (gF := gF) (gX := gX) (gD := gD) (nB := nB) (gB := gB) hs3 hs55 hs90 hc93)]; exact A_xX_0), (by rw [← (own_lf_own_f9f_55 (p1 := p1) (p2 := p2) (sh := sh) (se := se) (fo := fo) (fr := fr) (rl := rl) (gN := gN) (gF := gF) (gX := gX) (gD := gD) (nB := nB) (gB := gB) hs3 hs55 hs90 hc93)]; exact A_xD_0)⟩
          · first | (exact F_numbers_r0_0) | (simp only [if_neg hs3, if_neg hs55, if_pos hs90, if_pos hc93]; exact F_numbers_r0_0)
          · first | (exact F_elements_r0_0) | (simp only [if_neg hs3, if_neg hs55, if_pos hs90, if_pos hc93]; exact F_elements_r0_0)
          · first | (exact F_foundIn_r0_0) | (simp only [if_neg hs3, if_neg hs55, if_pos hs90, if_pos hc93]; exact F_foundIn_r0_0)
          · first | (exact F_next_r0_0) | (simp only [if_neg hs3, if_neg hs55, if_pos hs90, if_pos hc93]; exact F_next_r0_0)
          · first | (exact F_found_r0_0) | (simp only [if_neg hs3, if_neg hs55, if_pos hs90, if_pos hc93]; exact F_found_r0_0)
          · first | (exact F_bucketShift_r0_0) | (simp only [if_neg hs3, if_neg hs55, if_pos hs90, if_pos hc93]; exact F_bucketShift_r0_0)
          · first | (exact F_bucketStart_r0_0) | (simp only [if_neg hs3, if_neg hs55, if_pos hs90, if_pos hc93]; exact F_bucketStart_r0_0)
          · first | (exact F_search_r0_0) | (simp only [if_neg hs3, if_neg hs55, if_pos hs90, if_pos hc93]; exact F_search_r0_0)
          · first | (exact F_firstOnly_r0_0) | (simp only [if_neg hs3, if_neg hs55, if_pos hs90, if_pos hc93]; exact F_firstOnly_r0_0)
          · first | (exact F_forRuns_r0_0) | (simp only [if_neg hs3, if_neg hs55, if_pos hs90, if_pos hc93]; exact F_forRuns_r0_0)
          · first | (exact F_runsLength_r0_0) | (simp only [if_neg hs3, if_neg hs55, if_pos hs90, if_pos hc93]; exact F_runsLength_r0_0)
        · refine own_go (fun _ k => XS.icmpNo X92.here hx rfl (hb hby d9_26) rfl (flt hc93).2.2.1 k) ?_
          show own_Fin _ _ _ _ _ _ _ (T92.setTop (mkF m 29 #[.val (.ref r0), .val (.int p1), .val (.int p2), .val (.int (2 : Int32)), .unset] []))
          refine own_go (fun _ k => XS.aloadN X92.here hx rfl (hb hby d9_29) rfl rfl k) ?_
          obtain ⟨cq95, kq95, q95a, q95b, q95c⟩ := isOf hZ e92 E_r0_0
          obtain ⟨_, _, ⟨T95, L95, k95, n95⟩, -, X95, ⟨Lc95, hQ95, l95, y95, z95⟩, st95⟩ := X92.virtualBack hx (y := (⟨"com/example/reachability/reachability/CandidateList", "satisfied", "()Z"⟩ : MethodName)) (z := (⟨"com/example/reachability/reachability/CandidateList", "satisfied", "()Z"⟩ : MethodName)) hown (mvT hZ (hw _ (List.mem_of_getElem? (i := 82) rfl))) (mvT hZ (hw _ (List.mem_of_getElem? (i := 43) rfl))) (notFace_of_selects (args := #[]) (mvT hZ (hw _ (List.mem_of_getElem? (i := 45) rfl)))) (mvT hZ (hw _ (List.mem_of_getElem? (i := 45) rfl))) (mvT hZ (hw _ (List.mem_of_getElem? (i := 44) rfl))) (by decide) (backOf (W := 0) (rm7 l Z a0 hw [] r0 fo (0 : Int32) h0 n0 Z0 F_firstOnly_r0_0 F_foundCount_r0_0) hZ (hw _ (List.mem_of_getElem? (i := 46) rfl)) (hw _ (List.mem_of_getElem? (i := 6) rfl)) (by decide) (by decide)) q95a q95c (g := (mkF m 30 #[.val (.ref r0), .val (.int p1), .val (.int p2), .val (.int (2 : Int32)), .unset] [(.ref r0)])) rfl (by rw [hml]; rfl) (Steps.refl _) (argsL := []) (rest := []) (lenOf own_pd429 rfl) rfl (by show 2 * 0 + _ ≤ _; exact Nat.le_of_eq rfl) (hb hby d9_30) (fun _ _ => ⟨rfl, e92, (by decide : 0 + 0 ≤ _), (by decide : 0 + 0 ≤ _)⟩)
          dsimp only [Pt.U, Pt.locs, Pt.cells, Pt.slots] at X95 l95 y95 z95 st95 hQ95
          replace y95 : 0 = k95 := y95.symm
          replace z95 : 0 = n95 := z95.symm
          subst y95 z95
          obtain ⟨rfl, N95q, e95⟩ := hQ95
          have N95 : Fr n0 L95 := by rw [l95]; exact Fr.app N2 N95q
          refine own_go (fun tg k => st95.trans k) ?_
          show own_Fin _ _ _ _ _ _ _ (T95.setTop (mkF m 33 #[.val (.ref r0), .val (.int p1), .val (.int p2), .val (.int (2 : Int32)), .unset] [(.int (own_f7 fo (0 : Int32)))]))
          have hc33 : (own_f7 fo (0 : Int32)) = (0 : Int32) := own_sat0 _
          refine own_go (fun _ k => XS.ifNo X95.here hx rfl (hb hby d9_33) rfl ((if0 _ _).trans (teq hc33).2) k) ?_
          show own_Fin _ _ _ _ _ _ _ (T95.setTop (mkF m 36 #[.val (.ref r0), .val (.int p1), .val (.int p2), .val (.int (2 : Int32)), .unset] []))
          refine own_go (fun _ k => XS.aloadN X95.here hx rfl (hb hby d9_36) rfl rfl k) ?_
          obtain ⟨T96, X96, e96, st96⟩ := getF X95 hx hZ hown (host := "") (Or.inl (hw _ (List.mem_of_getElem? (i := 22) rfl))) Via.refl e95 F_foundIn_r0_0 (g := (mkF m 37 #[.val (.ref r0), .val (.int p1), .val (.int p2), .val (.int (2 : Int32)), .unset] [(.ref r0)])) rfl rfl (hb hby d9_37)
          refine own_go (fun tg k => st96 tg k) ?_
          show own_Fin _ _ _ _ _ _ _ (T96.setTop (mkF m 40 #[.val (.ref r0), .val (.int p1), .val (.int p2), .val (.int (2 : Int32)), .unset] [(.ref xF)]))
          refine own_go (fun _ k => XS.iloadN X96.here hx rfl (hb hby d9_40) rfl k) ?_
          refine own_go (fun _ k => XS.aloadN X96.here hx rfl (hb hby d9_41) rfl rfl k) ?_
          obtain ⟨T97, X97, e97, st97⟩ := getF X96 hx hZ hown (host := "") (Or.inl (hw _ (List.mem_of_getElem? (i := 14) rfl))) Via.refl e96 F_search_r0_0 (g := (mkF m 42 #[.val (.ref r0), .val (.int p1), .val (.int p2), .val (.int (2 : Int32)), .unset] [(.ref r0), (.int (2 : Int32)), (.ref xF)])) rfl rfl (hb hby d9_42)
          refine own_go (fun tg k => st97 tg k) ?_
          show own_Fin _ _ _ _ _ _ _ (T97.setTop (mkF m 45 #[.val (.ref r0), .val (.int p1), .val (.int p2), .val (.int (2 : Int32)), .unset] [(.int se), (.int (2 : Int32)), (.ref xF)]))
          obtain ⟨T98, h98, X98, e98, W98, A_xF_98, st98⟩ := own_stI X97 hx hZ e97 A_xF_0 (j := (2 : Int32)) ⟨by decide, by decide⟩ (g := (mkF m 45 #[.val (.ref r0), .val (.int p1), .val (.int p2), .val (.int (2 : Int32)), .unset] [(.int se), (.int (2 : Int32)), (.ref xF)])) rfl rfl (hb hby d9_45)
          have F_numbers_r0_98 := F_numbers_r0_0.other W98 (Or.inl (own_ne_arf E_r0_0 (hw _ (List.mem_of_getElem? (i := 5) rfl)) A_xF_0))
          have F_elements_r0_98 := F_elements_r0_0.other W98 (Or.inl (own_ne_arf E_r0_0 (hw _ (List.mem_of_getElem? (i := 5) rfl)) A_xF_0))
          have F_foundIn_r0_98 := F_foundIn_r0_0.other W98 (Or.inl (own_ne_arf E_r0_0 (hw _ (List.mem_of_getElem? (i := 5) rfl)) A_xF_0))
          have F_next_r0_98 := F_next_r0_0.other W98 (Or.inl (own_ne_arf E_r0_0 (hw _ (List.mem_of_getElem? (i := 5) rfl)) A_xF_0))
          have F_found_r0_98 := F_found_r0_0.other W98 (Or.inl (own_ne_arf E_r0_0 (hw _ (List.mem_of_getElem? (i := 5) rfl)) A_xF_0))
          have F_bucketShift_r0_98 := F_bucketShift_r0_0.other W98 (Or.inl (own_ne_arf E_r0_0 (hw _ (List.mem_of_getElem? (i := 5) rfl)) A_xF_0))
          have F_bucketStart_r0_98 := F_bucketStart_r0_0.other W98 (Or.inl (own_ne_arf E_r0_0 (hw _ (List.mem_of_getElem? (i := 5) rfl)) A_xF_0))
          have E_r0_98 := E_r0_0.wr W98
          have F_search_r0_98 := F_search_r0_0.other W98 (Or.inl (own_ne_arf E_r0_0 (hw _ (List.mem_of_getElem? (i := 5) rfl)) A_xF_0))
          have F_foundCount_r0_98 := F_foundCount_r0_0.other W98 (Or.inl (own_ne_arf E_r0_0 (hw _ (List.mem_of_getElem? (i := 5) rfl)) A_xF_0))
          have F_firstOnly_r0_98 := F_firstOnly_r0_0.other W98 (Or.inl (own_ne_arf E_r0_0 (hw _ (List.mem_of_getElem? (i := 5) rfl)) A_xF_0))
          have F_forRuns_r0_98 := F_forRuns_r0_0.other W98 (Or.inl (own_ne_arf E_r0_0 (hw _ (List.mem_of_getElem? (i := 5) rfl)) A_xF_0))
          have F_runsLength_r0_98 := F_runsLength_r0_0.other W98 (Or.inl (own_ne_arf E_r0_0 (hw _ (List.mem_of_getElem? (i := 5) rfl)) A_xF_0))
          have A_xN_98 := A_xN_0.other W98 ne_xN_xF
          have A_xX_98 := A_xX_0.other W98 (Ne.symm ne_xF_xX)
          have A_xD_98 := A_xD_0.other W98 (Ne.symm ne_xF_xD)
          have A_xB_98 := A_xB_0.other W98 (Ne.symm ne_xF_xB)
          have K98 := K0.wr W98 (Or.inl (List.mem_of_getElem? (i := 1) rfl))
          have N98 := Fr.snoc X98 N95 ge_xF
          have Z98 : n0 ≤ h98.size := Nat.le_trans Z0 (Keep.of_wr W98).1
          obtain ⟨f98, hf98⟩ : ∃ z, z = (own_set gF (2 : Int32) se) := ⟨_, rfl⟩
          rw [← hf98] at A_xF_98
          refine own_go (fun tg k => st98 tg k) ?_
          show own_Fin _ _ _ _ _ _ _ (T98.setTop (mkF m 46 #[.val (.ref r0), .val (.int p1), .val (.int p2), .val (.int (2 : Int32)), .unset] []))
          refine own_go (fun _ k => XS.aloadN X98.here hx rfl (hb hby d9_46) rfl rfl k) ?_
          obtain ⟨T99, X99, e99, st99⟩ := getF X98 hx hZ hown (host := "") (Or.inl (hw _ (List.mem_of_getElem? (i := 26) rfl))) Via.refl e98 F_found_r0_98 (g := (mkF m 47 #[.val (.ref r0), .val (.int p1), .val (.int p2), .val (.int (2 : Int32)), .unset] [(.ref r0)])) rfl rfl (hb hby d9_47)
          refine own_go (fun tg k => st99 tg k) ?_
          show own_Fin _ _ _ _ _ _ _ (T99.setTop (mkF m 50 #[.val (.ref r0), .val (.int p1), .val (.int p2), .val (.int (2 : Int32)), .unset] [(.ref xD)]))
          refine own_go (fun _ k => XS.aloadN X99.here hx rfl (hb hby d9_50) rfl rfl k) ?_
          refine own_go (fun _ k => XS.dup X99.here hx rfl (hb hby d9_51) rfl rfl k) ?_
          obtain ⟨T100, X100, e100, st100⟩ := getF X99 hx hZ hown (host := "") (Or.inl (hw _ (List.mem_of_getElem? (i := 55) rfl))) Via.refl e99 F_foundCount_r0_98 (g := (mkF m 52 #[.val (.ref r0), .val (.int p1), .val (.int p2), .val (.int (2 : Int32)), .unset] [(.ref r0), (.ref r0), (.ref xD)])) rfl rfl (hb hby d9_52)
          refine own_go (fun tg k => st100 tg k) ?_
          show own_Fin _ _ _ _ _ _ _ (T100.setTop (mkF m 55 #[.val (.ref r0), .val (.int p1), .val (.int p2), .val (.int (2 : Int32)), .unset] [(.int (0 : Int32)), (.ref r0), (.ref xD)]))
          refine own_go (fun _ k => XS.dupX1 X100.here hx rfl (hb hby d9_55) rfl rfl rfl k) ?_
          show own_Fin _ _ _ _ _ _ _ (T100.setTop (mkF m 56 #[.val (.ref r0), .val (.int p1), .val (.int p2), .val (.int (2 : Int32)), .unset] [(.int (0 : Int32)), (.ref r0), (.int (0 : Int32)), (.ref xD)]))
          refine own_go (fun _ k => XS.iconst X100.here hx rfl (hb hby d9_56) k) ?_
          refine own_go (fun _ k => XS.iadd X100.here hx rfl (hb hby d9_57) rfl k) ?_
          show own_Fin _ _ _ _ _ _ _ (T100.setTop (mkF m 58 #[.val (.ref r0), .val (.int p1), .val (.int p2), .val (.int (2 : Int32)), .unset] [(.int (1 : Int32)), (.ref r0), (.int (0 : Int32)), (.ref xD)]))
          obtain ⟨T101, h101, X101, e101, W101, st101⟩ := putF X100 hx hZ hown (host := "") (Or.inl (hw _ (List.mem_of_getElem? (i := 55) rfl))) Via.refl e100 F_foundCount_r0_98 E_r0_98 (Or.inl (hw _ (List.mem_of_getElem? (i := 56) rfl))) (hw _ (List.mem_of_getElem? (i := 5) rfl)) (ty := .int) (by decide) rfl rfl (g := (mkF m 58 #[.val (.ref r0), .val (.int p1), .val (.int p2), .val (.int (2 : Int32)), .unset] [(.int (1 : Int32)), (.ref r0), (.int (0 : Int32)), (.ref xD)])) rfl rfl (hb hby d9_58)
          have F_numbers_r0_101 := F_numbers_r0_98.other W101 (Or.inr (own_sn360 hw))
          have F_elements_r0_101 := F_elements_r0_98.other W101 (Or.inr (own_sn361 hw))
          have F_foundIn_r0_101 := F_foundIn_r0_98.other W101 (Or.inr (own_sn362 hw))
          have F_next_r0_101 := F_next_r0_98.other W101 (Or.inr (own_sn363 hw))
          have F_found_r0_101 := F_found_r0_98.other W101 (Or.inr (own_sn364 hw))
          have F_bucketShift_r0_101 := F_bucketShift_r0_98.other W101 (Or.inr (own_sn365 hw))
          have F_bucketStart_r0_101 := F_bucketStart_r0_98.other W101 (Or.inr (own_sn366 hw))
          have E_r0_101 := E_r0_98.wr W101
          have F_search_r0_101 := F_search_r0_98.other W101 (Or.inr (own_sn367 hw))
          have F_firstOnly_r0_101 := F_firstOnly_r0_98.other W101 (Or.inr (own_sn368 hw))
          have F_forRuns_r0_101 := F_forRuns_r0_98.other W101 (Or.inr (own_sn369 hw))
          have F_runsLength_r0_101 := F_runsLength_r0_98.other W101 (Or.inr (own_sn370 hw))
          have A_xN_101 := A_xN_98.other W101 (Ne.symm (own_ne_arf E_r0_98 (hw _ (List.mem_of_getElem? (i := 5) rfl)) A_xN_98))
          have A_xF_101 := A_xF_98.other W101 (Ne.symm (own_ne_arf E_r0_98 (hw _ (List.mem_of_getElem? (i := 5) rfl)) A_xF_98))
          have A_xX_101 := A_xX_98.other W101 (Ne.symm (own_ne_arf E_r0_98 (hw _ (List.mem_of_getElem? (i := 5) rfl)) A_xX_98))
          have A_xD_101 := A_xD_98.other W101 (Ne.symm (own_ne_arf E_r0_98 (hw _ (List.mem_of_getElem? (i := 5) rfl)) A_xD_98))
          have A_xB_101 := A_xB_98.other W101 (Ne.symm (own_ne_arf E_r0_98 (hw _ (List.mem_of_getElem? (i := 5) rfl)) A_xB_98))
          have K101 := K98.wr W101 (Or.inl (List.mem_of_getElem? (i := 0) rfl))
          have N101 := Fr.snoc X101 N98 ge_r0
          have Z101 : n0 ≤ h101.size := Nat.le_trans Z98 (Keep.of_wr W101).1
          have F_foundCount_r0_101 := F_foundCount_r0_98.same W101
          refine own_go (fun tg k => st101 tg k) ?_
          show own_Fin _ _ _ _ _ _ _ (T101.setTop (mkF m 61 #[.val (.ref r0), .val (.int p1), .val (.int p2), .val (.int (2 : Int32)), .unset] [(.int (0 : Int32)), (.ref xD)]))
          refine own_go (fun _ k => XS.iloadN X101.here hx rfl (hb hby d9_61) rfl k) ?_
          obtain ⟨T102, h102, X102, e102, W102, A_xD_102, st102⟩ := own_stI X101 hx hZ e101 A_xD_101 (j := (0 : Int32)) ⟨by decide, by decide⟩ (g := (mkF m 62 #[.val (.ref r0), .val (.int p1), .val (.int p2), .val (.int (2 : Int32)), .unset] [(.int (2 : Int32)), (.int (0 : Int32)), (.ref xD)])) rfl rfl (hb hby d9_62)
          have F_numbers_r0_102 := F_numbers_r0_101.other W102 (Or.inl (own_ne_arf E_r0_101 (hw _ (List.mem_of_getElem? (i := 5) rfl)) A_xD_101))
          have F_elements_r0_102 := F_elements_r0_101.other W102 (Or.inl (own_ne_arf E_r0_101 (hw _ (List.mem_of_getElem? (i := 5) rfl)) A_xD_101))
          have F_foundIn_r0_102 := F_foundIn_r0_101.other W102 (Or.inl (own_ne_arf E_r0_101 (hw _ (List.mem_of_getElem? (i := 5) rfl)) A_xD_101))
          have F_next_r0_102 := F_next_r0_101.other W102 (Or.inl (own_ne_arf E_r0_101 (hw _ (List.mem_of_getElem? (i := 5) rfl)) A_xD_101))
          have F_found_r0_102 := F_found_r0_101.other W102 (Or.inl (own_ne_arf E_r0_101 (hw _ (List.mem_of_getElem? (i := 5) rfl)) A_xD_101))
          have F_bucketShift_r0_102 := F_bucketShift_r0_101.other W102 (Or.inl (own_ne_arf E_r0_101 (hw _ (List.mem_of_getElem? (i := 5) rfl)) A_xD_101))
          have F_bucketStart_r0_102 := F_bucketStart_r0_101.other W102 (Or.inl (own_ne_arf E_r0_101 (hw _ (List.mem_of_getElem? (i := 5) rfl)) A_xD_101))
          have E_r0_102 := E_r0_101.wr W102
          have F_search_r0_102 := F_search_r0_101.other W102 (Or.inl (own_ne_arf E_r0_101 (hw _ (List.mem_of_getElem? (i := 5) rfl)) A_xD_101))
          have F_foundCount_r0_102 := F_foundCount_r0_101.other W102 (Or.inl (own_ne_arf E_r0_101 (hw _ (List.mem_of_getElem? (i := 5) rfl)) A_xD_101))
          have F_firstOnly_r0_102 := F_firstOnly_r0_101.other W102 (Or.inl (own_ne_arf E_r0_101 (hw _ (List.mem_of_getElem? (i := 5) rfl)) A_xD_101))
          have F_forRuns_r0_102 := F_forRuns_r0_101.other W102 (Or.inl (own_ne_arf E_r0_101 (hw _ (List.mem_of_getElem? (i := 5) rfl)) A_xD_101))
          have F_runsLength_r0_102 := F_runsLength_r0_101.other W102 (Or.inl (own_ne_arf E_r0_101 (hw _ (List.mem_of_getElem? (i := 5) rfl)) A_xD_101))
          have A_xN_102 := A_xN_101.other W102 ne_xN_xD
          have A_xF_102 := A_xF_101.other W102 ne_xF_xD
          have A_xX_102 := A_xX_101.other W102 ne_xX_xD
          have A_xB_102 := A_xB_101.other W102 (Ne.symm ne_xD_xB)
          have K102 := K101.wr W102 (Or.inl (List.mem_of_getElem? (i := 3) rfl))
          have N102 := Fr.snoc X102 N101 ge_xD
          have Z102 : n0 ≤ h102.size := Nat.le_trans Z101 (Keep.of_wr W102).1
          obtain ⟨f102, hf102⟩ : ∃ z, z = (own_set gD (0 : Int32) (2 : Int32)) := ⟨_, rfl⟩
          rw [← hf102] at A_xD_102
          refine own_go (fun tg k => st102 tg k) ?_
          show own_Fin _ _ _ _ _ _ _ (T102.setTop (mkF m 63 #[.val (.ref r0), .val (.int p1), .val (.int p2), .val (.int (2 : Int32)), .unset] []))
          refine own_go (fun _ k => XS.aloadN X102.here hx rfl (hb hby d9_63) rfl rfl k) ?_
          refine own_go (fun _ k => XS.iloadN X102.here hx rfl (hb hby d9_64) rfl k) ?_
          refine own_go (fun _ k => XS.iconst X102.here hx rfl (hb hby d9_65) k) ?_
          refine own_go (fun _ k => XS.iadd X102.here hx rfl (hb hby d9_66) rfl k) ?_
          show own_Fin _ _ _ _ _ _ _ (T102.setTop (mkF m 67 #[.val (.ref r0), .val (.int p1), .val (.int p2), .val (.int (2 : Int32)), .unset] [(.int (3 : Int32)), (.ref r0)]))
          obtain ⟨cq103, q103, q103'⟩ := E_r0_102.cell
          obtain ⟨_, _, ⟨T103, L103, k103, n103⟩, -, X103, ⟨Lc103, hQ103, l103, y103, z103⟩, st103⟩ := X102.privateBack hx (y := (⟨"com/example/reachability/reachability/CandidateList", "open", "(I)I"⟩ : MethodName)) hown (mvT hZ (hw _ (List.mem_of_getElem? (i := 74) rfl))) (mvT hZ (hw _ (List.mem_of_getElem? (i := 75) rfl))) (own_selpriv (z := (⟨"com/example/reachability/reachability/CandidateList", "satisfied", "()Z"⟩ : MethodName)) rfl (mvT (args := #[]) hZ (hw _ (List.mem_of_getElem? (i := 45) rfl))) (Cond.privateMethod_at (mvP hZ (hw _ (List.mem_of_getElem? (i := 76) rfl)) (args := #[]))) (mvT hZ (hw _ (List.mem_of_getElem? (i := 75) rfl))) (by decide)) (Cond.privateMethod_at (mvP hZ (hw _ (List.mem_of_getElem? (i := 76) rfl)) (args := #[]))) (mvT hZ (hw _ (List.mem_of_getElem? (i := 77) rfl))) (by decide) (backOf (W := 0) (rm12f l Z a0 hw [] r0 (3 : Int32) xN gN xF f98 se h102 n0 Z102 F_numbers_r0_102 A_xN_102 F_foundIn_r0_102 A_xF_102 F_search_r0_102 ⟨by decide, fun q => absurd q (by decide)⟩) hZ (hw _ (List.mem_of_getElem? (i := 77) rfl)) (hw _ (List.mem_of_getElem? (i := 6) rfl)) (by decide) (by decide)) (g := (mkF m 67 #[.val (.ref r0), .val (.int p1), .val (.int p2), .val (.int (2 : Int32)), .unset] [(.int (3 : Int32)), (.ref r0)])) rfl (by rw [hml]; rfl) (Steps.refl _) (a := r0) (by rw [e102]; exact q103) q103' (argsL := [(.int (3 : Int32))]) (rest := []) (lenOf own_pd428 rfl) rfl (by show 2 * 0 + _ ≤ _; exact Nat.le_of_eq rfl) (hb hby d9_67) (fun _ _ => ⟨rfl, e102, (by decide : 0 + 0 ≤ _), (by decide : 0 + 0 ≤ _)⟩)
          dsimp only [Pt.U, Pt.locs, Pt.cells, Pt.slots] at X103 l103 y103 z103 st103 hQ103
          replace y103 : 0 = k103 := y103.symm
          replace z103 : 0 = n103 := z103.symm
          subst y103 z103
          obtain ⟨rfl, N103q, e103⟩ := hQ103
          have N103 : Fr n0 L103 := by rw [l103]; exact Fr.app N102 N103q
          refine own_go (fun tg k => st103.trans k) ?_
          show own_Fin _ _ _ _ _ _ _ (T103.setTop (mkF m 70 #[.val (.ref r0), .val (.int p1), .val (.int p2), .val (.int (2 : Int32)), .unset] [(.int (3 : Int32))]))
          refine own_go (fun _ k => XS.istore X103.here hx rfl (hb hby d9_70) rfl (l' := #[.val (.ref r0), .val (.int p1), .val (.int p2), .val (.int (2 : Int32)), .val (.int (3 : Int32))]) rfl k) ?_
          show own_Fin _ _ _ _ _ _ _ (T103.setTop (mkF m 72 #[.val (.ref r0), .val (.int p1), .val (.int p2), .val (.int (2 : Int32)), .val (.int (3 : Int32))] []))
          refine own_go (fun _ k => XS.aloadN X103.here hx rfl (hb hby d9_72) rfl rfl k) ?_
          obtain ⟨T104, X104, e104, st104⟩ := getF X103 hx hZ hown (host := "") (Or.inl (hw _ (List.mem_of_getElem? (i := 24) rfl))) Via.refl e103 F_next_r0_102 (g := (mkF m 73 #[.val (.ref r0), .val (.int p1), .val (.int p2), .val (.int (2 : Int32)), .val (.int (3 : Int32))] [(.ref r0)])) rfl rfl (hb hby d9_73)
          refine own_go (fun tg k => st104 tg k) ?_
          show own_Fin _ _ _ _ _ _ _ (T104.setTop (mkF m 76 #[.val (.ref r0), .val (.int p1), .val (.int p2), .val (.int (2 : Int32)), .val (.int (3 : Int32))] [(.ref xX)]))
          refine own_go (fun _ k => XS.iloadN X104.here hx rfl (hb hby d9_76) rfl k) ?_
          refine own_go (fun _ k => XS.iload X104.here hx rfl (hb hby d9_77) rfl k) ?_
          obtain ⟨T105, h105, X105, e105, W105, A_xX_105, st105⟩ := own_stI X104 hx hZ e104 A_xX_102 (j := (2 : Int32)) ⟨by decide, by decide⟩ (g := (mkF m 79 #[.val (.ref r0), .val (.int p1), .val (.int p2), .val (.int (2 : Int32)), .val (.int (3 : Int32))] [(.int (3 : Int32)), (.int (2 : Int32)), (.ref xX)])) rfl rfl (hb hby d9_79)
          have F_numbers_r0_105 := F_numbers_r0_102.other W105 (Or.inl (own_ne_arf E_r0_102 (hw _ (List.mem_of_getElem? (i := 5) rfl)) A_xX_102))
          have F_elements_r0_105 := F_elements_r0_102.other W105 (Or.inl (own_ne_arf E_r0_102 (hw _ (List.mem_of_getElem? (i := 5) rfl)) A_xX_102))
          have F_foundIn_r0_105 := F_foundIn_r0_102.other W105 (Or.inl (own_ne_arf E_r0_102 (hw _ (List.mem_of_getElem? (i := 5) rfl)) A_xX_102))
          have F_next_r0_105 := F_next_r0_102.other W105 (Or.inl (own_ne_arf E_r0_102 (hw _ (List.mem_of_getElem? (i := 5) rfl)) A_xX_102))
          have F_found_r0_105 := F_found_r0_102.other W105 (Or.inl (own_ne_arf E_r0_102 (hw _ (List.mem_of_getElem? (i := 5) rfl)) A_xX_102))
          have F_bucketShift_r0_105 := F_bucketShift_r0_102.other W105 (Or.inl (own_ne_arf E_r0_102 (hw _ (List.mem_of_getElem? (i := 5) rfl)) A_xX_102))
          have F_bucketStart_r0_105 := F_bucketStart_r0_102.other W105 (Or.inl (own_ne_arf E_r0_102 (hw _ (List.mem_of_getElem? (i := 5) rfl)) A_xX_102))
          have E_r0_105 := E_r0_102.wr W105
          have F_search_r0_105 := F_search_r0_102.other W105 (Or.inl (own_ne_arf E_r0_102 (hw _ (List.mem_of_getElem? (i := 5) rfl)) A_xX_102))
          have F_foundCount_r0_105 := F_foundCount_r0_102.other W105 (Or.inl (own_ne_arf E_r0_102 (hw _ (List.mem_of_getElem? (i := 5) rfl)) A_xX_102))
          have F_firstOnly_r0_105 := F_firstOnly_r0_102.other W105 (Or.inl (own_ne_arf E_r0_102 (hw _ (List.mem_of_getElem? (i := 5) rfl)) A_xX_102))
          have F_forRuns_r0_105 := F_forRuns_r0_102.other W105 (Or.inl (own_ne_arf E_r0_102 (hw _ (List.mem_of_getElem? (i := 5) rfl)) A_xX_102))
          have F_runsLength_r0_105 := F_runsLength_r0_102.other W105 (Or.inl (own_ne_arf E_r0_102 (hw _ (List.mem_of_getElem? (i := 5) rfl)) A_xX_102))
          have A_xN_105 := A_xN_102.other W105 ne_xN_xX
          have A_xF_105 := A_xF_102.other W105 ne_xF_xX
          have A_xD_105 := A_xD_102.other W105 (Ne.symm ne_xX_xD)
          have A_xB_105 := A_xB_102.other W105 (Ne.symm ne_xX_xB)
          have K105 := K102.wr W105 (Or.inl (List.mem_of_getElem? (i := 2) rfl))
          have N105 := Fr.snoc X105 N103 ge_xX
          have Z105 : n0 ≤ h105.size := Nat.le_trans Z102 (Keep.of_wr W105).1
          obtain ⟨f105, hf105⟩ : ∃ z, z = (own_set gX (2 : Int32) (3 : Int32)) := ⟨_, rfl⟩
          rw [← hf105] at A_xX_105
          refine own_go (fun tg k => st105 tg k) ?_
          show own_Fin _ _ _ _ _ _ _ (T105.setTop (mkF m 80 #[.val (.ref r0), .val (.int p1), .val (.int p2), .val (.int (2 : Int32)), .val (.int (3 : Int32))] []))
          refine own_go (fun _ k => XS.iload X105.here hx rfl (hb hby d9_80) rfl k) ?_
          refine own_go (fun _ k => XS.istoreN X105.here hx rfl (hb hby d9_82) rfl (l' := #[.val (.ref r0), .val (.int p1), .val (.int p2), .val (.int (3 : Int32)), .val (.int (3 : Int32))]) rfl k) ?_
          show own_Fin _ _ _ _ _ _ _ (T105.setTop (mkF m 83 #[.val (.ref r0), .val (.int p1), .val (.int p2), .val (.int (3 : Int32)), .val (.int (3 : Int32))] []))
          refine own_go (fun _ k => XS.goto X105.here hx rfl (pc0 := 83) (pc' := 10) rfl (hb hby d9_83) (by decide) (by decide) k) ?_
          show own_Fin _ _ _ _ _ _ _ (T105.setTop (mkF m 10 #[.val (.ref r0), .val (.int p1), .val (.int p2), .val (.int (3 : Int32)), .val (.int (3 : Int32))] []))
          refine own_go (fun _ k => XS.iloadN X105.here hx rfl (hb hby d9_10) rfl k) ?_
          refine own_go (fun _ k => XS.aloadN X105.here hx rfl (hb hby d9_11) rfl rfl k) ?_
          obtain ⟨T106, X106, e106, st106⟩ := getF X105 hx hZ hown (host := "") (Or.inl (hw _ (List.mem_of_getElem? (i := 18) rfl))) Via.refl e105 F_numbers_r0_105 (g := (mkF m 12 #[.val (.ref r0), .val (.int p1), .val (.int p2), .val (.int (3 : Int32)), .val (.int (3 : Int32))] [(.ref r0), (.int (3 : Int32))])) rfl rfl (hb hby d9_12)
          refine own_go (fun tg k => st106 tg k) ?_
          show own_Fin _ _ _ _ _ _ _ (T106.setTop (mkF m 15 #[.val (.ref r0), .val (.int p1), .val (.int p2), .val (.int (3 : Int32)), .val (.int (3 : Int32))] [(.ref xN), (.int (3 : Int32))]))
          refine own_go (fun tg k => own_alen X106 hx hZ e106 A_xN_105 (g := (mkF m 15 #[.val (.ref r0), .val (.int p1), .val (.int p2), .val (.int (3 : Int32)), .val (.int (3 : Int32))] [(.ref xN), (.int (3 : Int32))])) rfl rfl (hb hby d9_15) tg k) ?_
          show own_Fin _ _ _ _ _ _ _ (T106.setTop (mkF m 16 #[.val (.ref r0), .val (.int p1), .val (.int p2), .val (.int (3 : Int32)), .val (.int (3 : Int32))] [(.int (3 : Int32)), (.int (3 : Int32))]))
          refine own_go (fun _ k => XS.icmpYes X106.here hx rfl (pc0 := 16) (pc' := 86) rfl (hb hby d9_16) rfl (flt (by decide)).2.1 (by decide) (by decide) k) ?_
          show own_Fin _ _ _ _ _ _ _ (T106.setTop (mkF m 86 #[.val (.ref r0), .val (.int p1), .val (.int p2), .val (.int (3 : Int32)), .val (.int (3 : Int32))] []))
          refine own_go (fun _ k => XS.aloadN X106.here hx rfl (hb hby d9_86) rfl rfl k) ?_
          refine own_go (fun _ k => XS.iloadN X106.here hx rfl (hb hby d9_87) rfl k) ?_
          obtain ⟨cq107, q107, q107'⟩ := E_r0_105.cell
          obtain ⟨_, _, ⟨T107, L107, k107, n107⟩, -, X107, ⟨Lc107, hQ107, l107, y107, z107⟩, st107⟩ := X106.privateBack hx (y := (⟨"com/example/reachability/reachability/CandidateList", "numberOf", "(I)I"⟩ : MethodName)) hown (mvT hZ (hw _ (List.mem_of_getElem? (i := 78) rfl))) (mvT hZ (hw _ (List.mem_of_getElem? (i := 79) rfl))) (own_selpriv (z := (⟨"com/example/reachability/reachability/CandidateList", "satisfied", "()Z"⟩ : MethodName)) rfl (mvT (args := #[]) hZ (hw _ (List.mem_of_getElem? (i := 45) rfl))) (Cond.privateMethod_at (mvP hZ (hw _ (List.mem_of_getElem? (i := 80) rfl)) (args := #[]))) (mvT hZ (hw _ (List.mem_of_getElem? (i := 79) rfl))) (by decide)) (Cond.privateMethod_at (mvP hZ (hw _ (List.mem_of_getElem? (i := 80) rfl)) (args := #[]))) (mvT hZ (hw _ (List.mem_of_getElem? (i := 81) rfl))) (by decide) (backOf (W := 0) (rm13 l Z a0 hw [] r0 (3 : Int32) xN gN h105 n0 Z105 F_numbers_r0_105 A_xN_105 (by decide)) hZ (hw _ (List.mem_of_getElem? (i := 81) rfl)) (hw _ (List.mem_of_getElem? (i := 6) rfl)) (by decide) (by decide)) (g := (mkF m 88 #[.val (.ref r0), .val (.int p1), .val (.int p2), .val (.int (3 : Int32)), .val (.int (3 : Int32))] [(.int (3 : Int32)), (.ref r0)])) rfl (by rw [hml]; rfl) (Steps.refl _) (a := r0) (by rw [e106]; exact q107) q107' (argsL := [(.int (3 : Int32))]) (rest := []) (lenOf own_pd428 rfl) rfl (by show 2 * 0 + _ ≤ _; exact Nat.le_of_eq rfl) (hb hby d9_88) (fun _ _ => ⟨rfl, e106, (by decide : 0 + 0 ≤ _), (by decide : 0 + 0 ≤ _)⟩)
          dsimp only [Pt.U, Pt.locs, Pt.cells, Pt.slots] at X107 l107 y107 z107 st107 hQ107
          replace y107 : 0 = k107 := y107.symm
          replace z107 : 0 = n107 := z107.symm
          subst y107 z107
          obtain ⟨rfl, N107q, e107⟩ := hQ107
          have N107 : Fr n0 L107 := by rw [l107]; exact Fr.app N105 N107q
          refine own_go (fun tg k => st107.trans k) ?_
          show own_Fin _ _ _ _ _ _ _ (T107.setTop (mkF m 91 #[.val (.ref r0), .val (.int p1), .val (.int p2), .val (.int (3 : Int32)), .val (.int (3 : Int32))] [(.int (own_f13 (3 : Int32) gN))]))
          refine own_ret X107 hx hlk Bd.returns rfl (Or.inl ⟨rfl, by simp, _, rfl⟩) (hb hby d9_91) (Nat.le_of_ble_eq_true rfl) (Nat.le_of_ble_eq_true rfl) ?_
          rw [e107]
          refine ⟨(own_lf_own_f9f_56 (p1 := p1) (p2 := p2) (sh := sh) (se := se) (fo := fo) (fr := fr) (rl := rl) (gN := gN) (gF := gF) (gX := gX) (gD := gD) (nB := nB) (gB := gB) hs3 hs55 hs90 hc93), N107, K105, ?_, ?_, ?_, ?_, ?_, ?_, ?_, E_r0_105, ?_, (by rw [← (own_lf_own_f9f_57 (p1 := p1) (p2 := p2) (sh := sh) (se := se) (fo := fo) (fr := fr) (rl := rl) (gN := gN) (gF := gF) (gX := gX) (gD := gD) (nB := nB) (gB := gB) hs3 hs55 hs90 hc93)]; exact F_foundCount_r0_105), ?_, ?_, ?_, (by rw [← (own_lf_own_f9f_58 (p1 := p1) (p2 := p2) (sh := sh) (se := se) (fo := fo) (fr := fr) (rl := rl) (gN := gN) (gF := gF) (gX := gX) (gD := gD) (nB := nB) (gB := gB) hf98 hs3 hs55 hs90 hc93)]; exact A_xF_105), (by rw [← (own_lf_own_f9f_59 (p1 := p1) (p2 := p2) (sh := sh) (se := se) (fo := fo) (fr := fr) (rl := rl) (gN := gN) (gF := gF) (gX := gX) (gD := gD) (nB := nB) (gB := gB) hf105 hs3 hs55 hs90 hc93)]; exact A_xX_105), (by rw [← (own_lf_own_f9f_60 (p1 := p1) (p2 := p2) (sh := sh) (se := se) (fo := fo) (fr := fr) (rl := rl) (gN := gN) (gF := gF) (gX := gX) (gD := gD) (nB := nB) (gB := gB) hf102 hs3 hs55 hs90 hc93)]; exact A_xD_105)⟩
          all_goals try subst hf105
          all_goals try subst hf102
          all_goals try subst hf98
          · first | (exact F_numbers_r0_105) | (simp only [if_neg hs3, if_neg hs55, if_pos hs90, if_neg hc93]; exact F_numbers_r0_105)
          · first | (exact F_elements_r0_105) | (simp only [if_neg hs3, if_neg hs55, if_pos hs90, if_neg hc93]; exact F_elements_r0_105)
          · first | (exact F_foundIn_r0_105) | (simp only [if_neg hs3, if_neg hs55, if_pos hs90, if_neg hc93]; exact F_foundIn_r0_105)
          · first | (exact F_next_r0_105) | (simp only [if_neg hs3, if_neg hs55, if_pos hs90, if_neg hc93]; exact F_next_r0_105)
          · first | (exact F_found_r0_105) | (simp only [if_neg hs3, if_neg hs55, if_pos hs90, if_neg hc93]; exact F_found_r0_105)
          · first | (exact F_bucketShift_r0_105) | (simp only [if_neg hs3, if_neg hs55, if_pos hs90, if_neg hc93]; exact F_bucketShift_r0_105)
          · first | (exact F_bucketStart_r0_105) | (simp only [if_neg hs3, if_neg hs55, if_pos hs90, if_neg hc93]; exact F_bucketStart_r0_105)
          · first | (exact F_search_r0_105) | (simp only [if_neg hs3, if_neg hs55, if_pos hs90, if_neg hc93]; exact F_search_r0_105)
          · first | (exact F_firstOnly_r0_105) | (simp only [if_neg hs3, if_neg hs55, if_pos hs90, if_neg hc93]; exact F_firstOnly_r0_105)
          · first | (exact F_forRuns_r0_105) | (simp only [if_neg hs3, if_neg hs55, if_pos hs90, if_neg hc93]; exact F_forRuns_r0_105)
          · first | (exact F_runsLength_r0_105) | (simp only [if_neg hs3, if_neg hs55, if_pos hs90, if_neg hc93]; exact F_runsLength_r0_105)
      · have hs108 : (own_f10 p1 sh nB gB gN) = (3 : Int32) := own_first3 hp.1 hs3 hs55 hs90
        try rw [hs108]
        show own_Fin _ _ _ _ _ _ _ (T2.setTop (mkF m 9 #[.val (.ref r0), .val (.int p1), .val (.int p2), .unset, .unset] [(.int (3 : Int32))]))
        refine own_go (fun _ k => XS.istoreN X2.here hx rfl (hb hby d9_9) rfl (l' := #[.val (.ref r0), .val (.int p1), .val (.int p2), .val (.int (3 : Int32)), .unset]) rfl k) ?_
        show own_Fin _ _ _ _ _ _ _ (T2.setTop (mkF m 10 #[.val (.ref r0), .val (.int p1), .val (.int p2), .val (.int (3 : Int32)), .unset] []))
        refine own_go (fun _ k => XS.iloadN X2.here hx rfl (hb hby d9_10) rfl k) ?_
        refine own_go (fun _ k => XS.aloadN X2.here hx rfl (hb hby d9_11) rfl rfl k) ?_
        obtain ⟨T109, X109, e109, st109⟩ := getF X2 hx hZ hown (host := "") (Or.inl (hw _ (List.mem_of_getElem? (i := 18) rfl))) Via.refl e2 F_numbers_r0_0 (g := (mkF m 12 #[.val (.ref r0), .val (.int p1), .val (.int p2), .val (.int (3 : Int32)), .unset] [(.ref r0), (.int (3 : Int32))])) rfl rfl (hb hby d9_12)
        refine own_go (fun tg k => st109 tg k) ?_
        show own_Fin _ _ _ _ _ _ _ (T109.setTop (mkF m 15 #[.val (.ref r0), .val (.int p1), .val (.int p2), .val (.int (3 : Int32)), .unset] [(.ref xN), (.int (3 : Int32))]))
        refine own_go (fun tg k => own_alen X109 hx hZ e109 A_xN_0 (g := (mkF m 15 #[.val (.ref r0), .val (.int p1), .val (.int p2), .val (.int (3 : Int32)), .unset] [(.ref xN), (.int (3 : Int32))])) rfl rfl (hb hby d9_15) tg k) ?_
        show own_Fin _ _ _ _ _ _ _ (T109.setTop (mkF m 16 #[.val (.ref r0), .val (.int p1), .val (.int p2), .val (.int (3 : Int32)), .unset] [(.int (3 : Int32)), (.int (3 : Int32))]))
        refine own_go (fun _ k => XS.icmpYes X109.here hx rfl (pc0 := 16) (pc' := 86) rfl (hb hby d9_16) rfl (flt (by decide)).2.1 (by decide) (by decide) k) ?_
        show own_Fin _ _ _ _ _ _ _ (T109.setTop (mkF m 86 #[.val (.ref r0), .val (.int p1), .val (.int p2), .val (.int (3 : Int32)), .unset] []))
        refine own_go (fun _ k => XS.aloadN X109.here hx rfl (hb hby d9_86) rfl rfl k) ?_
        refine own_go (fun _ k => XS.iloadN X109.here hx rfl (hb hby d9_87) rfl k) ?_
        obtain ⟨cq110, q110, q110'⟩ := E_r0_0.cell
        obtain ⟨_, _, ⟨T110, L110, k110, n110⟩, -, X110, ⟨Lc110, hQ110, l110, y110, z110⟩, st110⟩ := X109.privateBack hx (y := (⟨"com/example/reachability/reachability/CandidateList", "numberOf", "(I)I"⟩ : MethodName)) hown (mvT hZ (hw _ (List.mem_of_getElem? (i := 78) rfl))) (mvT hZ (hw _ (List.mem_of_getElem? (i := 79) rfl))) (own_selpriv (z := (⟨"com/example/reachability/reachability/CandidateList", "satisfied", "()Z"⟩ : MethodName)) rfl (mvT (args := #[]) hZ (hw _ (List.mem_of_getElem? (i := 45) rfl))) (Cond.privateMethod_at (mvP hZ (hw _ (List.mem_of_getElem? (i := 80) rfl)) (args := #[]))) (mvT hZ (hw _ (List.mem_of_getElem? (i := 79) rfl))) (by decide)) (Cond.privateMethod_at (mvP hZ (hw _ (List.mem_of_getElem? (i := 80) rfl)) (args := #[]))) (mvT hZ (hw _ (List.mem_of_getElem? (i := 81) rfl))) (by decide) (backOf (W := 0) (rm13 l Z a0 hw [] r0 (3 : Int32) xN gN h0 n0 Z0 F_numbers_r0_0 A_xN_0 (by decide)) hZ (hw _ (List.mem_of_getElem? (i := 81) rfl)) (hw _ (List.mem_of_getElem? (i := 6) rfl)) (by decide) (by decide)) (g := (mkF m 88 #[.val (.ref r0), .val (.int p1), .val (.int p2), .val (.int (3 : Int32)), .unset] [(.int (3 : Int32)), (.ref r0)])) rfl (by rw [hml]; rfl) (Steps.refl _) (a := r0) (by rw [e109]; exact q110) q110' (argsL := [(.int (3 : Int32))]) (rest := []) (lenOf own_pd428 rfl) rfl (by show 2 * 0 + _ ≤ _; exact Nat.le_of_eq rfl) (hb hby d9_88) (fun _ _ => ⟨rfl, e109, (by decide : 0 + 0 ≤ _), (by decide : 0 + 0 ≤ _)⟩)
        dsimp only [Pt.U, Pt.locs, Pt.cells, Pt.slots] at X110 l110 y110 z110 st110 hQ110
        replace y110 : 0 = k110 := y110.symm
        replace z110 : 0 = n110 := z110.symm
        subst y110 z110
        obtain ⟨rfl, N110q, e110⟩ := hQ110
        have N110 : Fr n0 L110 := by rw [l110]; exact Fr.app N2 N110q
        refine own_go (fun tg k => st110.trans k) ?_
        show own_Fin _ _ _ _ _ _ _ (T110.setTop (mkF m 91 #[.val (.ref r0), .val (.int p1), .val (.int p2), .val (.int (3 : Int32)), .unset] [(.int (own_f13 (3 : Int32) gN))]))
        refine own_ret X110 hx hlk Bd.returns rfl (Or.inl ⟨rfl, by simp, _, rfl⟩) (hb hby d9_91) (Nat.le_of_ble_eq_true rfl) (Nat.le_of_ble_eq_true rfl) ?_
        rw [e110]
        refine ⟨(own_lf_own_f9f_61 (p1 := p1) (p2 := p2) (sh := sh) (se := se) (fo := fo) (fr := fr) (rl := rl) (gN := gN) (gF := gF) (gX := gX) (gD := gD) (nB := nB) (gB := gB) hs3 hs55 hs90), N110, K0, ?_, ?_, ?_, ?_, ?_, ?_, ?_, E_r0_0, ?_, (by rw [← (own_lf_own_f9f_62 (p1 := p1) (p2 := p2) (sh := sh) (se := se) (fo := fo) (fr := fr) (rl := rl) (gN := gN) (gF := gF) (gX := gX) (gD := gD) (nB := nB) (gB := gB) hs3 hs55 hs90)]; exact F_foundCount_r0_0), ?_, ?_, ?_, (by rw [← (own_lf_own_f9f_63 (p1 := p1) (p2 := p2) (sh := sh) (se := se) (fo := fo) (fr := fr) (rl := rl) (gN := gN) (gF := gF) (gX := gX) (gD := gD) (nB := nB) (gB := gB) hs3 hs55 hs90)]; exact A_xF_0), (by rw [← (own_lf_own_f9f_64 (p1 := p1) (p2 := p2) (sh := sh) (se := se) (fo := fo) (fr := fr) (rl := rl) (gN := gN) (gF := gF) (gX := gX) (gD := gD) (nB := nB) (gB := gB) hs3 hs55 hs90)]; exact A_xX_0), (by rw [← (own_lf_own_f9f_65 (p1 := p1) (p2 := p2) (sh := sh) (se := se) (fo := fo) (fr := fr) (rl := rl) (gN := gN) (gF := gF) (gX := gX) (gD := gD) (nB := nB) (gB := gB) hs3 hs55 hs90)]; exact A_xD_0)⟩
        · first | (exact F_numbers_r0_0) | (simp only [if_neg hs3, if_neg hs55, if_neg hs90]; exact F_numbers_r0_0)
        · first | (exact F_elements_r0_0) | (simp only [if_neg hs3, if_neg hs55, if_neg hs90]; exact F_elements_r0_0)
        · first | (exact F_foundIn_r0_0) | (simp only [if_neg hs3, if_neg hs55, if_neg hs90]; exact F_foundIn_r0_0)
        · first | (exact F_next_r0_0) | (simp only [if_neg hs3, if_neg hs55, if_neg hs90]; exact F_next_r0_0)
        · first | (exact F_found_r0_0) | (simp only [if_neg hs3, if_neg hs55, if_neg hs90]; exact F_found_r0_0)
        · first | (exact F_bucketShift_r0_0) | (simp only [if_neg hs3, if_neg hs55, if_neg hs90]; exact F_bucketShift_r0_0)
        · first | (exact F_bucketStart_r0_0) | (simp only [if_neg hs3, if_neg hs55, if_neg hs90]; exact F_bucketStart_r0_0)
        · first | (exact F_search_r0_0) | (simp only [if_neg hs3, if_neg hs55, if_neg hs90]; exact F_search_r0_0)
        · first | (exact F_firstOnly_r0_0) | (simp only [if_neg hs3, if_neg hs55, if_neg hs90]; exact F_firstOnly_r0_0)
        · first | (exact F_forRuns_r0_0) | (simp only [if_neg hs3, if_neg hs55, if_neg hs90]; exact F_forRuns_r0_0)
        · first | (exact F_runsLength_r0_0) | (simp only [if_neg hs3, if_neg hs55, if_neg hs90]; exact F_runsLength_r0_0)
theorem own_ltN (f : Nat → Int32) (v : Int32) (N : Nat) (hs : ∀ i j, i ≤ j → j < N → (f i).toInt ≤ (f j).toInt) : ∀ (n : Nat) (lo hi : Int32), (hi.toInt - lo.toInt).toNat ≤ n → 0 ≤ lo.toInt → lo.toInt ≤ hi.toInt → hi.toInt ≤ N →
    ∃ r : Nat, (own_falE f v lo hi).toInt = r ∧ lo.toInt ≤ r ∧ (r : Int) ≤ hi.toInt ∧ (∀ i : Nat, lo.toInt ≤ i → i < r → (f i).toInt < v.toInt) ∧ (∀ i : Nat, r ≤ i → (i : Int) < hi.toInt → v.toInt ≤ (f i).toInt) := by
  intro n
  induction n with
  | zero =>
    intro lo hi h1 h2 h3 h4
    have e : ¬ lo < hi := by rw [Int32.lt_iff_toInt_lt]; omega
    rw [own_fal0 e]
    exact ⟨lo.toInt.toNat, by omega, by omega, by omega, fun i a b => by omega, fun i a b => by omega⟩
  | succ n ih =>
    intro lo hi h1 h2 h3 h4
    by_cases h : lo < hi
    · have h0 : ¬ lo < (0 : Int32) := by rw [Int32.lt_iff_toInt_lt, show (0 : Int32).toInt = 0 from by decide]; omega
      obtain ⟨m1, m2⟩ := own_midv h0 h
      have h' := h
      rw [Int32.lt_iff_toInt_lt] at h'
      rw [own_fal1 h0 h]
      have mi : (own_iushr (lo + hi) (1 : Int32)).toNatClampNeg = ((lo.toInt + hi.toInt) / 2).toNat := by simp only [Int32.toNatClampNeg, m1]
      rw [mi]
      by_cases c : f ((lo.toInt + hi.toInt) / 2).toNat < v
      · rw [if_pos c]
        obtain ⟨r, e, a1, a2, a3, a4⟩ := ih ((own_iushr (lo + hi) (1 : Int32)) + 1) hi (by omega) (by omega) (by omega) h4
        refine ⟨r, e, by omega, a2, fun i b1 b2 => ?_, a4⟩
        by_cases q : (lo.toInt + hi.toInt) / 2 + 1 ≤ i
        · exact a3 i (by omega) b2
        · rw [Int32.lt_iff_toInt_lt] at c
          have := hs i ((lo.toInt + hi.toInt) / 2).toNat (by omega) (by omega)
          omega
      · rw [if_neg c]
        obtain ⟨r, e, a1, a2, a3, a4⟩ := ih lo (own_iushr (lo + hi) (1 : Int32)) (by omega) (by omega) (by omega) (by omega)
        refine ⟨r, e, a1, by omega, a3, fun i b1 b2 => ?_⟩
        by_cases q : (i : Int) < (lo.toInt + hi.toInt) / 2
        · exact a4 i b1 (by omega)
        · rw [Int32.lt_iff_toInt_lt] at c
          have := hs ((lo.toInt + hi.toInt) / 2).toNat i (by omega) (by omega)
          omega
    · have e : ¬ lo < hi := h
      rw [Int32.lt_iff_toInt_lt] at h
      rw [own_fal0 e]
      exact ⟨lo.toInt.toNat, by omega, by omega, by omega, fun i a b => by omega, fun i a b => by omega⟩
/-- the first place whose number is at least v -/
def own_fi (g : Nat → Int32) (v : Int32) : Nat := if v.toInt ≤ (g 0).toInt then 0 else if v.toInt ≤ (g 1).toInt then 1 else if v.toInt ≤ (g 2).toInt then 2 else 3
theorem own_sub1 (x : Int32) (n : Nat) (h : x.toInt = n) (h1 : 1 ≤ n) : (x - (1 : Int32)).toInt = ((n - 1 : Nat) : Int) := by
  have a := c_isub x 1
  have r := rng32 (x - 1)
  have r2 := rng32 x
  rw [show (1 : Int32).toInt = 1 from by decide] at a
  omega
theorem own_arith (D g0 g1 g2 v j r lo hi : Int) (hD : D = 1 ∨ D = 2 ∨ D = 4 ∨ D = 8 ∨ D = 16) (hg : g0 ≤ g1 ∧ g1 ≤ g2) (hj : v / D = j)
    (hlo : lo = (if g0 / D < j then (1 : Int) else 0) + (if g1 / D < j then 1 else 0) + (if g2 / D < j then 1 else 0)) (hhi : hi = (if g0 / D < j + 1 then (1 : Int) else 0) + (if g1 / D < j + 1 then 1 else 0) + (if g2 / D < j + 1 then 1 else 0))
    (p1 : lo ≤ r) (p2 : r ≤ hi) (x0 : lo ≤ 0 → 0 < r → g0 < v) (x1 : lo ≤ 1 → 1 < r → g1 < v) (x2 : lo ≤ 2 → 2 < r → g2 < v) (y0 : r ≤ 0 → 0 < hi → v ≤ g0) (y1 : r ≤ 1 → 1 < hi → v ≤ g1) (y2 : r ≤ 2 → 2 < hi → v ≤ g2) :
    r = if v ≤ g0 then 0 else if v ≤ g1 then 1 else if v ≤ g2 then 2 else 3 := by
  have m1 : g0 / D ≤ g1 / D := by rcases hD with d | d | d | d | d <;> subst d <;> omega
  have m2 : g1 / D ≤ g2 / D := by rcases hD with d | d | d | d | d <;> subst d <;> omega
  have u0 : g0 / D < j → g0 < v := by rcases hD with d | d | d | d | d <;> subst d <;> omega
  have u1 : g1 / D < j → g1 < v := by rcases hD with d | d | d | d | d <;> subst d <;> omega
  have u2 : g2 / D < j → g2 < v := by rcases hD with d | d | d | d | d <;> subst d <;> omega
  have w0 : ¬ g0 / D < j + 1 → v < g0 := by rcases hD with d | d | d | d | d <;> subst d <;> omega
  have w1 : ¬ g1 / D < j + 1 → v < g1 := by rcases hD with d | d | d | d | d <;> subst d <;> omega
  have w2 : ¬ g2 / D < j + 1 → v < g2 := by rcases hD with d | d | d | d | d <;> subst d <;> omega
  generalize g0 / D = a at *
  generalize g1 / D = b at *
  generalize g2 / D = c at *
  clear hj hD
  by_cases c0 : a < j <;> by_cases c1 : b < j <;> by_cases c2 : c < j <;> by_cases d0 : a < j + 1 <;> by_cases d1 : b < j + 1 <;> by_cases d2 : c < j + 1 <;> first | (exfalso; omega) | skip
  all_goals simp only [c0, c1, c2, d0, d1, d2, if_true, if_false] at hlo hhi
  all_goals subst hlo hhi
  all_goals (repeat' split) <;> omega
theorem own_f10k {g gB : Nat → Int32} (h : own_srt g) (k : Int32) (n : Nat) (D : Int) (hk : k.toBitVec.toNat % 32 = n) (hD : ((2 ^ n : Nat) : Int) = D) (hDs : D = 1 ∨ D = 2 ∨ D = 4 ∨ D = 8 ∨ D = 16) (hc : (g 2).toInt / D ≤ 2) (hB : own_spB g k gB) (v : Int32) (hv : 0 ≤ v.toInt ∧ v.toInt < 64) :
    own_okF v k ((own_iushr (g 2) k) + (2 : Int32)) gB ∧ (own_f10 v k ((own_iushr (g 2) k) + (2 : Int32)) gB g).toInt = own_fi g v := by
  obtain ⟨a1, a2, a3, a4⟩ := h
  have s0 := own_shr (g 0) k n hk a1
  have s1 := own_shr (g 1) k n hk (by omega)
  have s2 := own_shr (g 2) k n hk (by omega)
  have sv := own_shr v k n hk hv.1
  rw [hD] at s0 s1 s2 sv
  have c0 : 0 ≤ (g 2).toInt / D := Int.ediv_nonneg (by omega) (by omega)
  have j0 : 0 ≤ v.toInt / D := Int.ediv_nonneg (by omega) (by omega)
  obtain ⟨cN, hcN⟩ : ∃ c : Nat, (g 2).toInt / D = c := ⟨((g 2).toInt / D).toNat, by omega⟩
  obtain ⟨jN, hjN⟩ : ∃ c : Nat, v.toInt / D = c := ⟨(v.toInt / D).toNat, by omega⟩
  have jle : jN ≤ 64 := by rcases hDs with q | q | q | q | q <;> subst q <;> omega
  have L : ((own_iushr (g 2) k) + (2 : Int32)).toInt = ((cN + 2 : Nat) : Int) := own_add1 _ cN 2 (by omega) (by omega) (by decide)
  have L1 : ((own_iushr (g 2) k) + (2 : Int32) - (1 : Int32)).toInt = ((cN + 1 : Nat) : Int) := own_sub1 _ (cN + 2) L (by omega)
  have J1 : (own_iushr v k).toNatClampNeg = jN := own_cl (by omega)
  have K1 : ((own_iushr v k) + (1 : Int32)).toInt = ((jN + 1 : Nat) : Int) := own_add1 _ jN 1 (by omega) (by omega) (by decide)
  have J2 : ((own_iushr v k) + (1 : Int32)).toNatClampNeg = jN + 1 := own_cl K1
  have CC : (own_iushr v k) < ((own_iushr (g 2) k) + (2 : Int32) - (1 : Int32)) ↔ jN < cN + 1 := by rw [Int32.lt_iff_toInt_lt, L1]; omega
  have b1 := hB jN
  have b2 := hB (jN + 1)
  rw [L, s0, s1, s2] at b1 b2
  have k3 : (3 : Int32).toInt = 3 := by decide
  have k0 : (0 : Int32).toInt = 0 := by decide
  refine ⟨?_, ?_⟩
  · intro q
    have q' := CC.mp q
    have b1' := b1 (by omega)
    have b2' := b2 (by omega)
    rw [J1, J2]
    simp only [Int32.lt_iff_toInt_lt, Int32.le_iff_toInt_le, k0, k3, L, K1]
    refine ⟨by omega, by omega, ?_, ?_⟩
    · rw [b1']; repeat' split
      all_goals omega
    · rw [b2']; repeat' split
      all_goals omega
  · simp only [own_f10]
    by_cases q : (own_iushr v k) < ((own_iushr (g 2) k) + (2 : Int32) - (1 : Int32))
    · rw [if_pos q, J1, J2]
      have q' := CC.mp q
      have b1' := b1 (by omega)
      have b2' := b2 (by omega)
      have hs : ∀ i j, i ≤ j → j < 3 → (g i).toInt ≤ (g j).toInt := by
        intro i j hij hj
        rcases (show j = 0 ∨ j = 1 ∨ j = 2 by omega) with e | e | e <;> subst e
        · rw [show i = 0 from by omega]; exact Int.le_refl _
        · rcases (show i = 0 ∨ i = 1 by omega) with e | e <;> subst e <;> omega
        · rcases (show i = 0 ∨ i = 1 ∨ i = 2 by omega) with e | e | e <;> subst e <;> omega
      have B1 : 0 ≤ (gB jN).toInt ∧ (gB jN).toInt ≤ (gB (jN + 1)).toInt ∧ (gB (jN + 1)).toInt ≤ 3 := by
        rw [b1', b2']
        refine ⟨?_, ?_, ?_⟩ <;> (repeat' split) <;> omega
      obtain ⟨r, e, p1, p2, p3, p4⟩ := own_ltN g v 3 hs _ (gB jN) (gB (jN + 1)) (Nat.le_refl _) B1.1 B1.2.1 (by omega)
      rw [e]
      have x0 := p3 0; have x1 := p3 1; have x2 := p3 2
      have y0 := p4 0; have y1 := p4 1; have y2 := p4 2
      have key := own_arith D (g 0).toInt (g 1).toInt (g 2).toInt v.toInt jN r (gB jN).toInt (gB (jN + 1)).toInt hDs ⟨a2, a3⟩ hjN (by rw [b1']) (by rw [b2']; rfl) p1 p2 (fun a b => x0 a (by omega)) (fun a b => x1 a (by omega)) (fun a b => x2 a (by omega)) (fun a b => y0 (by omega) b) (fun a b => y1 (by omega) b) (fun a b => y2 (by omega) b)
      rw [key]
      unfold own_fi
      repeat' split
      all_goals rfl
    · rw [if_neg q]
      have q' : ¬ jN < cN + 1 := fun z => q (CC.mpr z)
      unfold own_fi
      rcases hDs with d | d | d | d | d <;> subst d <;> (repeat' split) <;> first | omega | rfl

theorem own_bshk {g : Nat → Int32} (h : own_srt g) : ∃ (n : Nat) (D : Int), (own_f4 g).toBitVec.toNat % 32 = n ∧ ((2 ^ n : Nat) : Int) = D ∧ (D = 1 ∨ D = 2 ∨ D = 4 ∨ D = 8 ∨ D = 16) ∧ (g 2).toInt / D ≤ 2 := by
  have h2 := own_srt1 h
  have M : (3 : Int32).toInt = 3 := by decide
  have s0 := own_shr (g 2) 0 0 (by decide) h2.1
  have s1 := own_shr (g 2) 1 1 (by decide) h2.1
  have s2 := own_shr (g 2) 2 2 (by decide) h2.1
  have s3 := own_shr (g 2) 3 3 (by decide) h2.1
  simp only [own_f4, own_mx, Int32.lt_iff_toInt_lt, s0, s1, s2, s3, M]
  repeat' split
  · exact ⟨0, 1, by decide, by decide, by decide, by rename_i q; rw [show ((2 ^ 0 : Nat) : Int) = 1 from by decide] at q; omega⟩
  · exact ⟨1, 2, by decide, by decide, by decide, by rename_i q; rw [show ((2 ^ 1 : Nat) : Int) = 2 from by decide] at q; omega⟩
  · exact ⟨2, 4, by decide, by decide, by decide, by rename_i q; rw [show ((2 ^ 2 : Nat) : Int) = 4 from by decide] at q; omega⟩
  · exact ⟨3, 8, by decide, by decide, by decide, by rename_i q; rw [show ((2 ^ 3 : Nat) : Int) = 8 from by decide] at q; omega⟩
  · exact ⟨4, 16, by decide, by decide, by decide, by omega⟩
theorem own_f10v {g gB : Nat → Int32} (h : own_srt g) (hB : own_spB g (own_f4 g) gB) (v : Int32) (hv : 0 ≤ v.toInt ∧ v.toInt < 64) :
    own_okS v (own_f4 g) ((own_iushr (g 2) (own_f4 g)) + (2 : Int32)) gB g ∧ (own_f10 v (own_f4 g) ((own_iushr (g 2) (own_f4 g)) + (2 : Int32)) gB g).toInt = own_fi g v := by
  obtain ⟨n, D, hk, hD, hDs, hc⟩ := own_bshk h
  obtain ⟨q1, q2⟩ := own_f10k h (own_f4 g) n D hk hD hDs hc hB v hv
  refine ⟨⟨q1, own_fi g v, q2, ?_⟩, q2⟩
  unfold own_fi
  repeat' split
  all_goals omega

theorem d1_0 : decode method_2_code 0 = .ok (.iload_n 1, 1) := by decide +kernel
theorem d1_1 : decode method_2_code 1 = .ok (.iload_n 0, 1) := by decide +kernel
theorem d1_2 : decode method_2_code 2 = .ok (.if_icmp .gt 12, 3) := by decide +kernel
theorem d1_5 : decode method_2_code 5 = .ok (.iload_n 0, 1) := by decide +kernel
theorem d1_6 : decode method_2_code 6 = .ok (.iload_n 2, 1) := by decide +kernel
theorem d1_7 : decode method_2_code 7 = .ok (.if_icmp .gt 7, 3) := by decide +kernel
theorem d1_10 : decode method_2_code 10 = .ok (.iconst 1, 1) := by decide +kernel
theorem d1_11 : decode method_2_code 11 = .ok (.goto 4, 3) := by decide +kernel
theorem d1_14 : decode method_2_code 14 = .ok (.iconst 0, 1) := by decide +kernel
theorem d1_15 : decode method_2_code 15 = .ok (.ireturn, 1) := by decide +kernel
theorem pn_1 : plainName "com/example/reachability/reachability/CandidateListSatisfiedPinLaw" = true := by first | (simp [plainName, overriddenIn]; done) | decide +kernel
theorem ef_1 (m : MethodId) (p0 : Int32) (p1 : Int32) (p2 : Int32) : entryFrame m #[(.int p0), (.int p1), (.int p2)] 3 = mkF m 0 #[.val (.int p0), .val (.int p1), .val (.int p2)] [] := by first | (simp [entryFrame, mkF, argsToLocals, Value.category]; done) | rfl
def own_rm1_room : Room := { frames := 0, cells := 0, slots := 0, locals := 0 }
def own_f1 (p0 : Int32) (p1 : Int32) (p2 : Int32) : Int32 := (if p0 < p1 then ((0 : Int32)) else ((if p2 < p0 then ((0 : Int32)) else ((1 : Int32)))))
theorem own_lf_own_f1_1 {p0 : Int32} {p1 : Int32} {p2 : Int32} (hc1 : p0 < p1) : (some (.int (0 : Int32)) : Option Value) = some (.int (own_f1 p0 p1 p2)) := by
  first | (simp only [own_f1, if_pos hc1]; done) | (simp only [own_f1, if_pos hc1]; rfl) | rfl
theorem own_lf_own_f1_2 {p0 : Int32} {p1 : Int32} {p2 : Int32} (hc1 : ¬ (p0 < p1)) (hc2 : p2 < p0) : (some (.int (0 : Int32)) : Option Value) = some (.int (own_f1 p0 p1 p2)) := by
  first | (simp only [own_f1, if_neg hc1, if_pos hc2]; done) | (simp only [own_f1, if_neg hc1, if_pos hc2]; rfl) | rfl
theorem own_lf_own_f1_3 {p0 : Int32} {p1 : Int32} {p2 : Int32} (hc1 : ¬ (p0 < p1)) (hc2 : ¬ (p2 < p0)) : (some (.int (1 : Int32)) : Option Value) = some (.int (own_f1 p0 p1 p2)) := by
  first | (simp only [own_f1, if_neg hc1, if_neg hc2]; done) | (simp only [own_f1, if_neg hc1, if_neg hc2]; rfl) | rfl
set_option maxRecDepth 65536 in
set_option maxHeartbeats 40000000 in
theorem rm1 (l : Launch) (Z : State) (a0 : Array Value) (hw : ∀ d ∈ tables_1, d.before a0 Z = true) (ws : List Jvm.Cond) (p0 : Int32) (p1 : Int32) (p2 : Int32) (h0 : Heap) (n0 : Nat) (Z0 : n0 ≤ h0.size) :
    MetFree l (⟨"com/example/reachability/reachability/CandidateListSatisfiedPinLaw", "in", "(III)Z"⟩ : MethodName) (head1 (Jvm.Cond.code (⟨"com/example/reachability/reachability/CandidateListSatisfiedPinLaw", "in", "(III)Z"⟩ : MethodName) method_2_code 3 (some .boolean) :: ws) own_rm1_room) (fun a U => a = #[(.int p0), (.int p1), (.int p2)] ∧ Z.Warmed39 U.vm ∧ U.heap = h0) (fun _ _ _ _ _ => True) (fun _ U o U' => ∃ v L, o = .returned v ∧ own_QP (some (.int (own_f1 p0 p1 p2))) h0 n0 v U'.heap L ∧ FrameEnd U o U' L own_rm1_room.cells own_rm1_room.slots) := by
  refine MetFree.of_bodySF (plainFor_of_name pn_1) hisR ?_
  intro p e s m args below meth c s₁ Bd hml0 hP hK
  obtain ⟨rfl, hZ, hh⟩ := hP
  have hx := Bd.exec
  have hby := Bd.bytes
  have hml : c.maxLocals = 3 := hml0
  have hown : s.vm.findClass "com/example/reachability/reachability/CandidateListSatisfiedPinLaw" = some m.cls := findClass_of_methodNamed Bd.named
  have hnm := (name_of_methodNamed Bd.named Bd.method).1
  have hlk : meth.locks = false := BodyLoose.notSynchronized Bd
  have X0 : Stand p l e own_rm1_room s m #[(.int p0), (.int p1), (.int p2)] below meth c s₁ [] 0 0 := Stand.of_body Bd
  have e0 : s₁.heap = h0 := by rw [← hh, Bd.state]; rfl
  have N0 := Fr.nil n0
  show own_Fin p.tables e below s (own_QP (some (.int (own_f1 p0 p1 p2))) h0 n0) own_rm1_room.cells own_rm1_room.slots (s₁.setTop (entryFrame m #[(.int p0), (.int p1), (.int p2)] 3))
  rw [ef_1]
  show own_Fin _ _ _ _ _ _ _ (s₁.setTop (mkF m 0 #[.val (.int p0), .val (.int p1), .val (.int p2)] []))
  refine own_go (fun _ k => XS.iloadN X0.here hx rfl (hb hby d1_0) rfl k) ?_
  show own_Fin _ _ _ _ _ _ _ (s₁.setTop (mkF m 1 #[.val (.int p0), .val (.int p1), .val (.int p2)] [(.int p1)]))
  refine own_go (fun _ k => XS.iloadN X0.here hx rfl (hb hby d1_1) rfl k) ?_
  show own_Fin _ _ _ _ _ _ _ (s₁.setTop (mkF m 2 #[.val (.int p0), .val (.int p1), .val (.int p2)] [(.int p0), (.int p1)]))
  by_cases hc1 : p0 < p1
  · refine own_go (fun _ k => XS.icmpYes X0.here hx rfl (pc0 := 2) (pc' := 14) rfl (hb hby d1_2) rfl (tlt hc1).2.2.1 (by decide) (by decide) k) ?_
    show own_Fin _ _ _ _ _ _ _ (s₁.setTop (mkF m 14 #[.val (.int p0), .val (.int p1), .val (.int p2)] []))
    refine own_go (fun _ k => XS.iconst X0.here hx rfl (hb hby d1_14) k) ?_
    show own_Fin _ _ _ _ _ _ _ (s₁.setTop (mkF m 15 #[.val (.int p0), .val (.int p1), .val (.int p2)] [(.int (0 : Int32))]))
    refine own_ret X0 hx hlk Bd.returns rfl (Or.inl ⟨rfl, by simp, _, rfl⟩) (hb hby d1_15) (Nat.le_of_ble_eq_true rfl) (Nat.le_of_ble_eq_true rfl) ?_
    exact ⟨(own_lf_own_f1_1 (p0 := p0) (p1 := p1) (p2 := p2) hc1), N0, e0⟩
  · refine own_go (fun _ k => XS.icmpNo X0.here hx rfl (hb hby d1_2) rfl (flt hc1).2.2.1 k) ?_
    show own_Fin _ _ _ _ _ _ _ (s₁.setTop (mkF m 5 #[.val (.int p0), .val (.int p1), .val (.int p2)] []))
    refine own_go (fun _ k => XS.iloadN X0.here hx rfl (hb hby d1_5) rfl k) ?_
    show own_Fin _ _ _ _ _ _ _ (s₁.setTop (mkF m 6 #[.val (.int p0), .val (.int p1), .val (.int p2)] [(.int p0)]))
    refine own_go (fun _ k => XS.iloadN X0.here hx rfl (hb hby d1_6) rfl k) ?_
    show own_Fin _ _ _ _ _ _ _ (s₁.setTop (mkF m 7 #[.val (.int p0), .val (.int p1), .val (.int p2)] [(.int p2), (.int p0)]))
    by_cases hc2 : p2 < p0
    · refine own_go (fun _ k => XS.icmpYes X0.here hx rfl (pc0 := 7) (pc' := 14) rfl (hb hby d1_7) rfl (tlt hc2).2.2.1 (by decide) (by decide) k) ?_
      show own_Fin _ _ _ _ _ _ _ (s₁.setTop (mkF m 14 #[.val (.int p0), .val (.int p1), .val (.int p2)] []))
      refine own_go (fun _ k => XS.iconst X0.here hx rfl (hb hby d1_14) k) ?_
      show own_Fin _ _ _ _ _ _ _ (s₁.setTop (mkF m 15 #[.val (.int p0), .val (.int p1), .val (.int p2)] [(.int (0 : Int32))]))
      refine own_ret X0 hx hlk Bd.returns rfl (Or.inl ⟨rfl, by simp, _, rfl⟩) (hb hby d1_15) (Nat.le_of_ble_eq_true rfl) (Nat.le_of_ble_eq_true rfl) ?_
      exact ⟨(own_lf_own_f1_2 (p0 := p0) (p1 := p1) (p2 := p2) hc1 hc2), N0, e0⟩
    · refine own_go (fun _ k => XS.icmpNo X0.here hx rfl (hb hby d1_7) rfl (flt hc2).2.2.1 k) ?_
      show own_Fin _ _ _ _ _ _ _ (s₁.setTop (mkF m 10 #[.val (.int p0), .val (.int p1), .val (.int p2)] []))
      refine own_go (fun _ k => XS.iconst X0.here hx rfl (hb hby d1_10) k) ?_
      show own_Fin _ _ _ _ _ _ _ (s₁.setTop (mkF m 11 #[.val (.int p0), .val (.int p1), .val (.int p2)] [(.int (1 : Int32))]))
      refine own_go (fun _ k => XS.goto X0.here hx rfl (pc0 := 11) (pc' := 15) rfl (hb hby d1_11) (by decide) (by decide) k) ?_
      show own_Fin _ _ _ _ _ _ _ (s₁.setTop (mkF m 15 #[.val (.int p0), .val (.int p1), .val (.int p2)] [(.int (1 : Int32))]))
      refine own_ret X0 hx hlk Bd.returns rfl (Or.inl ⟨rfl, by simp, _, rfl⟩) (hb hby d1_15) (Nat.le_of_ble_eq_true rfl) (Nat.le_of_ble_eq_true rfl) ?_
      exact ⟨(own_lf_own_f1_3 (p0 := p0) (p1 := p1) (p2 := p2) hc1 hc2), N0, e0⟩
theorem own_m63 (x : Int32) : 0 ≤ (x &&& (63 : Int32)).toInt ∧ (x &&& (63 : Int32)).toInt < 64 := by
  have h := c_and x 63 (by decide)
  rw [show (63 : Int32).toInt = 63 from by decide] at h
  omega
theorem own_m3n (p0 p1 p2 : Int32) : 0 ≤ (p0 &&& (15 : Int32)).toInt ∧ (p0 &&& (15 : Int32)).toInt ≤ ((p0 &&& (15 : Int32)) + (p1 &&& (15 : Int32))).toInt ∧ ((p0 &&& (15 : Int32)) + (p1 &&& (15 : Int32))).toInt ≤ (((p0 &&& (15 : Int32)) + (p1 &&& (15 : Int32))) + (p2 &&& (15 : Int32))).toInt ∧ (((p0 &&& (15 : Int32)) + (p1 &&& (15 : Int32))) + (p2 &&& (15 : Int32))).toInt < 48 := by
  have h0 := c_and p0 15 (by decide)
  have h1 := c_and p1 15 (by decide)
  have h2 := c_and p2 15 (by decide)
  rw [show (15 : Int32).toInt = 15 from by decide] at h0 h1 h2
  have a := c_iadd (p0 &&& 15) (p1 &&& 15)
  have r := rng32 ((p0 &&& 15) + (p1 &&& 15))
  have b := c_iadd ((p0 &&& 15) + (p1 &&& 15)) (p2 &&& 15)
  have r2 := rng32 ((p0 &&& 15) + (p1 &&& 15) + (p2 &&& 15))
  omega
theorem own_m3srt (p0 p1 p2 : Int32) : own_srt (own_set (own_set (own_set (fun _ => (0 : Int32)) (0 : Int32) (p0 &&& (15 : Int32))) (1 : Int32) ((p0 &&& (15 : Int32)) + (p1 &&& (15 : Int32)))) (2 : Int32) (((p0 &&& (15 : Int32)) + (p1 &&& (15 : Int32))) + (p2 &&& (15 : Int32)))) := own_m3n p0 p1 p2
theorem own_AxF (p1 p2 sh se fo fr rl : Int32) (gN gF gX gD : Nat → Int32) (nB : Int32) (gB : Nat → Int32) (i : Nat) : own_f9f_AxF p1 p2 sh se fo fr rl gN gF gX gD nB gB i = gF i ∨ own_f9f_AxF p1 p2 sh se fo fr rl gN gF gX gD nB gB i = se := by
  have S : ∀ (f : Nat → Int32) (j : Int32), (f i = gF i ∨ f i = se) → (own_set f j se i = gF i ∨ own_set f j se i = se) := by
    intro f j h
    simp only [own_set]
    split
    · exact Or.inr rfl
    · exact h
  simp only [own_f9f_AxF]
  repeat' split
  all_goals first | exact Or.inl rfl | exact S _ _ (Or.inl rfl) | exact S _ _ (S _ _ (Or.inl rfl)) | exact S _ _ (S _ _ (S _ _ (Or.inl rfl)))
theorem own_fr2 (p1 p2 sh fo fr rl : Int32) (gN gX gD : Nat → Int32) (nB : Int32) (gB : Nat → Int32) (i : Nat) : ¬ own_f9f_AxF p1 p2 sh ((1 : Int32) + (1 : Int32)) fo fr rl gN (fun _ => (0 : Int32)) gX gD nB gB i = (((1 : Int32) + (1 : Int32)) + (1 : Int32)) := by
  rcases own_AxF p1 p2 sh ((1 : Int32) + (1 : Int32)) fo fr rl gN (fun _ => (0 : Int32)) gX gD nB gB i with h | h <;> rw [h] <;> decide

theorem own_pd497 : parseMethodDescriptor "(III)Z" = some ⟨[.int, .int, .int], some .boolean⟩ := by decide +kernel
theorem own_pd498 : parseMethodDescriptor "([I[I)V" = some ⟨[(.array .int), (.array .int)], none⟩ := by decide +kernel
theorem own_pd499 : parseMethodDescriptor "(Z)V" = some ⟨[.boolean], none⟩ := by decide +kernel
theorem pn_0 : plainName "com/example/reachability/reachability/CandidateListSatisfiedPinLaw" = true := by first | (simp [plainName, overriddenIn]; done) | decide +kernel
theorem ef_0 (m : MethodId) (p0 : Int32) (p1 : Int32) (p2 : Int32) (p3 : Int32) (p4 : Int32) (p5 : Int32) : entryFrame m #[(.int p0), (.int p1), (.int p2), (.int p3), (.int p4), (.int p5)] maxLocals = mkF m 0 #[.val (.int p0), .val (.int p1), .val (.int p2), .val (.int p3), .val (.int p4), .val (.int p5), .unset, .unset, .unset, .unset, .unset, .unset, .unset, .unset, .unset, .unset, .unset, .unset, .unset, .unset] [] := by first | (simp [entryFrame, mkF, argsToLocals, Value.category, maxLocals]; done) | rfl
def own_f0 (p0 : Int32) (p1 : Int32) (p2 : Int32) (p3 : Int32) (p4 : Int32) (p5 : Int32) (gB28 : Nat → Int32) : Int32 := let z1 := (((p0 &&& (15 : Int32)) + (p1 &&& (15 : Int32))) + (p2 &&& (15 : Int32))); let z5 := (if (p5 &&& (1 : Int32)) = (0 : Int32) then (0 : Int32) else (1 : Int32)); let z9 := (if (p5 &&& (2 : Int32)) = (0 : Int32) then (0 : Int32) else (1 : Int32)); let z18 := (if (own_f1 (p0 &&& (15 : Int32)) (p3 &&& (63 : Int32)) (p4 &&& (63 : Int32))) = (0 : Int32) then (if (own_f1 ((p0 &&& (15 : Int32)) + (p1 &&& (15 : Int32))) (p3 &&& (63 : Int32)) (p4 &&& (63 : Int32))) = (0 : Int32) then (if (own_f1 z1 (p3 &&& (63 : Int32)) (p4 &&& (63 : Int32))) = (0 : Int32) then (0 : Int32) else (1 : Int32)) else (1 : Int32)) else (1 : Int32)); let f21 := (own_set (fun _ => (0 : Int32)) (0 : Int32) (p0 &&& (15 : Int32))); let f22 := (own_set f21 (1 : Int32) ((p0 &&& (15 : Int32)) + (p1 &&& (15 : Int32)))); let f23 := (own_set f22 (2 : Int32) z1); let f25 := (own_set (fun _ => (0 : Int32)) (0 : Int32) (7 : Int32)); let f26 := (own_set f25 (1 : Int32) (8 : Int32)); let f27 := (own_set f26 (2 : Int32) (9 : Int32)); let z34 := (own_f7 (z5 &&& 1) (own_f9f_foundCount (p3 &&& (63 : Int32)) (p4 &&& (63 : Int32)) (own_f4 f23) ((1 : Int32) + (1 : Int32)) (z5 &&& 1) (0 : Int32) (0 : Int32) f23 (fun _ => (0 : Int32)) (fun _ => (0 : Int32)) (fun _ => (0 : Int32)) ((own_iushr (f23 2) (own_f4 f23)) + (2 : Int32)) gB28)); let z39 := (own_f7 (z9 &&& 1) (own_f9f_foundCount (p3 &&& (63 : Int32)) (p4 &&& (63 : Int32)) (own_f4 f23) (((1 : Int32) + (1 : Int32)) + (1 : Int32)) (z9 &&& 1) (0 : Int32) (0 : Int32) f23 (own_f9f_AxF (p3 &&& (63 : Int32)) (p4 &&& (63 : Int32)) (own_f4 f23) ((1 : Int32) + (1 : Int32)) (z5 &&& 1) (0 : Int32) (0 : Int32) f23 (fun _ => (0 : Int32)) (fun _ => (0 : Int32)) (fun _ => (0 : Int32)) ((own_iushr (f23 2) (own_f4 f23)) + (2 : Int32)) gB28) (own_f9f_AxX (p3 &&& (63 : Int32)) (p4 &&& (63 : Int32)) (own_f4 f23) ((1 : Int32) + (1 : Int32)) (z5 &&& 1) (0 : Int32) (0 : Int32) f23 (fun _ => (0 : Int32)) (fun _ => (0 : Int32)) (fun _ => (0 : Int32)) ((own_iushr (f23 2) (own_f4 f23)) + (2 : Int32)) gB28) (own_f9f_AxD (p3 &&& (63 : Int32)) (p4 &&& (63 : Int32)) (own_f4 f23) ((1 : Int32) + (1 : Int32)) (z5 &&& 1) (0 : Int32) (0 : Int32) f23 (fun _ => (0 : Int32)) (fun _ => (0 : Int32)) (fun _ => (0 : Int32)) ((own_iushr (f23 2) (own_f4 f23)) + (2 : Int32)) gB28) ((own_iushr (f23 2) (own_f4 f23)) + (2 : Int32)) gB28)); (if (own_f7 (0 : Int32) (0 : Int32)) = (0 : Int32) then ((if (own_f7 (z5 &&& 1) (0 : Int32)) = (0 : Int32) then (let z46 := (if z5 = (0 : Int32) then (0 : Int32) else (if z18 = (0 : Int32) then (0 : Int32) else (1 : Int32))); (if z34 = z46 then ((if (own_f7 (z9 &&& 1) (0 : Int32)) = (0 : Int32) then (let z53 := (if z9 = (0 : Int32) then (0 : Int32) else (if z18 = (0 : Int32) then (0 : Int32) else (1 : Int32))); (if z39 = z53 then ((1 : Int32)) else ((0 : Int32)))) else ((0 : Int32)))) else ((0 : Int32)))) else ((0 : Int32)))) else ((0 : Int32)))
theorem own_cnt (p1 p2 sh se fo fr rl : Int32) (g gF gX gD : Nat → Int32) (nB : Int32) (gB : Nat → Int32) (hS : own_srt g) (hf : (own_f10 p1 sh nB gB g).toInt = own_fi g p1) :
    (0 : Int32) < own_f9f_foundCount p1 p2 sh se fo fr rl g gF gX gD nB gB ↔ ((p1.toInt ≤ (g 0).toInt ∧ (g 0).toInt ≤ p2.toInt) ∨ (p1.toInt ≤ (g 1).toInt ∧ (g 1).toInt ≤ p2.toInt) ∨ (p1.toInt ≤ (g 2).toInt ∧ (g 2).toInt ≤ p2.toInt)) := by
  unfold own_srt at hS
  have k0 : (0 : Int32).toInt = 0 := by decide
  have k1 : (1 : Int32).toInt = 1 := by decide
  have k2 : (2 : Int32).toInt = 2 := by decide
  have k3 : (3 : Int32).toInt = 3 := by decide
  unfold own_fi at hf
  simp only [own_f9f_foundCount, ← Int32.toInt_inj, Int32.lt_iff_toInt_lt, k0, k1, k2]
  generalize (own_f10 p1 sh nB gB g).toInt = F at *
  repeat' split
  all_goals (try simp only [k0, k1, k2, k3])
  all_goals (repeat' split at hf)
  all_goals omega
theorem own_anyv (a b c l h : Int32) : (if own_f1 a l h = (0 : Int32) then (if own_f1 b l h = (0 : Int32) then (if own_f1 c l h = (0 : Int32) then (0 : Int32) else (1 : Int32)) else (1 : Int32)) else (1 : Int32)) = (0 : Int32) ↔ ¬ ((l.toInt ≤ a.toInt ∧ a.toInt ≤ h.toInt) ∨ (l.toInt ≤ b.toInt ∧ b.toInt ≤ h.toInt) ∨ (l.toInt ≤ c.toInt ∧ c.toInt ≤ h.toInt)) := by
  have I : ∀ x : Int32, own_f1 x l h = (0 : Int32) ↔ ¬ (l.toInt ≤ x.toInt ∧ x.toInt ≤ h.toInt) := by
    intro x
    simp only [own_f1, Int32.lt_iff_toInt_lt]
    split
    · simp; omega
    · split
      · simp; omega
      · simp; omega
  simp only [I]
  repeat' split
  all_goals simp_all
theorem own_s01 (x : Int32) (z : Int32) (h : z = 0 ∨ z = 1) (any : Prop) [Decidable any] (n : Int32) (hn : (0 : Int32) < n ↔ any) (a : Int32) (ha : a = 0 ↔ ¬ any) : own_f7 (z &&& 1) n = (if z = (0 : Int32) then (0 : Int32) else (if a = (0 : Int32) then (0 : Int32) else (1 : Int32))) := by
  simp only [own_f7, hn, ha]
  rcases h with h | h <;> subst h
  · simp
  · by_cases q : any <;> simp [q]
theorem own_plain (p0 p1 p2 p3 p4 p5 : Int32) (gB : Nat → Int32) (hB : own_spB (own_set (own_set (own_set (fun _ => (0 : Int32)) (0 : Int32) (p0 &&& (15 : Int32))) (1 : Int32) ((p0 &&& (15 : Int32)) + (p1 &&& (15 : Int32)))) (2 : Int32) (((p0 &&& (15 : Int32)) + (p1 &&& (15 : Int32))) + (p2 &&& (15 : Int32)))) (own_f4 (own_set (own_set (own_set (fun _ => (0 : Int32)) (0 : Int32) (p0 &&& (15 : Int32))) (1 : Int32) ((p0 &&& (15 : Int32)) + (p1 &&& (15 : Int32)))) (2 : Int32) (((p0 &&& (15 : Int32)) + (p1 &&& (15 : Int32))) + (p2 &&& (15 : Int32))))) gB) : own_f0 p0 p1 p2 p3 p4 p5 gB = 1 := by
  have hS := own_m3srt p0 p1 p2
  have fv := (own_f10v hS hB (p3 &&& 63) (own_m63 p3)).2
  simp only [own_f0]
  have g0 : own_set (own_set (own_set (fun _ => (0 : Int32)) (0 : Int32) (p0 &&& (15 : Int32))) (1 : Int32) ((p0 &&& (15 : Int32)) + (p1 &&& (15 : Int32)))) (2 : Int32) (((p0 &&& (15 : Int32)) + (p1 &&& (15 : Int32))) + (p2 &&& (15 : Int32))) 0 = (p0 &&& (15 : Int32)) := rfl
  have g1 : own_set (own_set (own_set (fun _ => (0 : Int32)) (0 : Int32) (p0 &&& (15 : Int32))) (1 : Int32) ((p0 &&& (15 : Int32)) + (p1 &&& (15 : Int32)))) (2 : Int32) (((p0 &&& (15 : Int32)) + (p1 &&& (15 : Int32))) + (p2 &&& (15 : Int32))) 1 = ((p0 &&& (15 : Int32)) + (p1 &&& (15 : Int32))) := rfl
  have g2 : own_set (own_set (own_set (fun _ => (0 : Int32)) (0 : Int32) (p0 &&& (15 : Int32))) (1 : Int32) ((p0 &&& (15 : Int32)) + (p1 &&& (15 : Int32)))) (2 : Int32) (((p0 &&& (15 : Int32)) + (p1 &&& (15 : Int32))) + (p2 &&& (15 : Int32))) 2 = (((p0 &&& (15 : Int32)) + (p1 &&& (15 : Int32))) + (p2 &&& (15 : Int32))) := rfl
  generalize own_set (own_set (own_set (fun _ => (0 : Int32)) (0 : Int32) (p0 &&& (15 : Int32))) (1 : Int32) ((p0 &&& (15 : Int32)) + (p1 &&& (15 : Int32)))) (2 : Int32) (((p0 &&& (15 : Int32)) + (p1 &&& (15 : Int32))) + (p2 &&& (15 : Int32))) = g at *
  rw [← g2, ← g1, ← g0]
  have C := fun se fo fr rl gF gX gD => own_cnt (p3 &&& 63) (p4 &&& 63) (own_f4 g) se fo fr rl g gF gX gD ((own_iushr (g 2) (own_f4 g)) + 2) gB hS fv
  have an := own_anyv (g 0) (g 1) (g 2) (p3 &&& 63) (p4 &&& 63)
  generalize (if own_f1 (g 0) (p3 &&& (63 : Int32)) (p4 &&& (63 : Int32)) = (0 : Int32) then _ else _) = a at *
  have z5 : (if (p5 &&& (1 : Int32)) = (0 : Int32) then (0 : Int32) else (1 : Int32)) = 0 ∨ (if (p5 &&& (1 : Int32)) = (0 : Int32) then (0 : Int32) else (1 : Int32)) = 1 := by split <;> simp
  have z9 : (if (p5 &&& (2 : Int32)) = (0 : Int32) then (0 : Int32) else (1 : Int32)) = 0 ∨ (if (p5 &&& (2 : Int32)) = (0 : Int32) then (0 : Int32) else (1 : Int32)) = 1 := by split <;> simp
  generalize (if (p5 &&& (1 : Int32)) = (0 : Int32) then (0 : Int32) else (1 : Int32)) = x at *
  generalize (if (p5 &&& (2 : Int32)) = (0 : Int32) then (0 : Int32) else (1 : Int32)) = y at *
  simp only [own_sat0, if_true]
  rw [own_s01 0 x z5 _ _ (C _ _ _ _ _ _ _) a an, own_s01 0 y z9 _ _ (C _ _ _ _ _ _ _) a an, if_pos rfl, if_pos rfl]

theorem own_lf_own_f0_1 {p0 : Int32} {p1 : Int32} {p2 : Int32} {p3 : Int32} {p4 : Int32} {p5 : Int32} {gB28 : Nat → Int32} {z1 : Int32} {z5 : Int32} {z9 : Int32} {z18 : Int32} {f21 : Nat → Int32} {f22 : Nat → Int32} {f23 : Nat → Int32} {z34 : Int32} {z39 : Int32} {z46 : Int32} {z53 : Int32} (hz1 : (((p0 &&& (15 : Int32)) + (p1 &&& (15 : Int32))) + (p2 &&& (15 : Int32))) = z1) (hz5 : (if (p5 &&& (1 : Int32)) = (0 : Int32) then (0 : Int32) else (1 : Int32)) = z5) (hz9 : (if (p5 &&& (2 : Int32)) = (0 : Int32) then (0 : Int32) else (1 : Int32)) = z9) (hz18 : (if (own_f1 (p0 &&& (15 : Int32)) (p3 &&& (63 : Int32)) (p4 &&& (63 : Int32))) = (0 : Int32) then (if (own_f1 ((p0 &&& (15 : Int32)) + (p1 &&& (15 : Int32))) (p3 &&& (63 : Int32)) (p4 &&& (63 : Int32))) = (0 : Int32) then (if (own_f1 z1 (p3 &&& (63 : Int32)) (p4 &&& (63 : Int32))) = (0 : Int32) then (0 : Int32) else (1 : Int32)) else (1 : Int32)) else (1 : Int32)) = z18) (hf21 : f21 = (own_set (fun _ => (0 : Int32)) (0 : Int32) (p0 &&& (15 : Int32)))) (hf22 : f22 = (own_set f21 (1 : Int32) ((p0 &&& (15 : Int32)) + (p1 &&& (15 : Int32))))) (hf23 : f23 = (own_set f22 (2 : Int32) z1)) (hz34 : (own_f7 (z5 &&& 1) (own_f9f_foundCount (p3 &&& (63 : Int32)) (p4 &&& (63 : Int32)) (own_f4 f23) ((1 : Int32) + (1 : Int32)) (z5 &&& 1) (0 : Int32) (0 : Int32) f23 (fun _ => (0 : Int32)) (fun _ => (0 : Int32)) (fun _ => (0 : Int32)) ((own_iushr (f23 2) (own_f4 f23)) + (2 : Int32)) gB28)) = z34) (hz39 : (own_f7 (z9 &&& 1) (own_f9f_foundCount (p3 &&& (63 : Int32)) (p4 &&& (63 : Int32)) (own_f4 f23) (((1 : Int32) + (1 : Int32)) + (1 : Int32)) (z9 &&& 1) (0 : Int32) (0 : Int32) f23 (own_f9f_AxF (p3 &&& (63 : Int32)) (p4 &&& (63 : Int32)) (own_f4 f23) ((1 : Int32) + (1 : Int32)) (z5 &&& 1) (0 : Int32) (0 : Int32) f23 (fun _ => (0 : Int32)) (fun _ => (0 : Int32)) (fun _ => (0 : Int32)) ((own_iushr (f23 2) (own_f4 f23)) + (2 : Int32)) gB28) (own_f9f_AxX (p3 &&& (63 : Int32)) (p4 &&& (63 : Int32)) (own_f4 f23) ((1 : Int32) + (1 : Int32)) (z5 &&& 1) (0 : Int32) (0 : Int32) f23 (fun _ => (0 : Int32)) (fun _ => (0 : Int32)) (fun _ => (0 : Int32)) ((own_iushr (f23 2) (own_f4 f23)) + (2 : Int32)) gB28) (own_f9f_AxD (p3 &&& (63 : Int32)) (p4 &&& (63 : Int32)) (own_f4 f23) ((1 : Int32) + (1 : Int32)) (z5 &&& 1) (0 : Int32) (0 : Int32) f23 (fun _ => (0 : Int32)) (fun _ => (0 : Int32)) (fun _ => (0 : Int32)) ((own_iushr (f23 2) (own_f4 f23)) + (2 : Int32)) gB28) ((own_iushr (f23 2) (own_f4 f23)) + (2 : Int32)) gB28)) = z39) (hz46 : (if z5 = (0 : Int32) then (0 : Int32) else (if z18 = (0 : Int32) then (0 : Int32) else (1 : Int32))) = z46) (hz53 : (if z9 = (0 : Int32) then (0 : Int32) else (if z18 = (0 : Int32) then (0 : Int32) else (1 : Int32))) = z53) (hc40 : (own_f7 (0 : Int32) (0 : Int32)) = (0 : Int32)) (hc41 : (own_f7 (z5 &&& 1) (0 : Int32)) = (0 : Int32)) (hc47 : z34 = z46) (hc48 : (own_f7 (z9 &&& 1) (0 : Int32)) = (0 : Int32)) (hc54 : z39 = z53) : (some (.int (1 : Int32)) : Option Value) = some (.int (own_f0 p0 p1 p2 p3 p4 p5 gB28)) := by
  subst hz53
  subst hz46
  subst hz39
  subst hz34
  subst hf23
  subst hf22
  subst hf21
  subst hz18
  subst hz9
  subst hz5
  subst hz1
  first | (simp only [own_f0, if_pos hc40, if_pos hc41, if_pos hc47, if_pos hc48, if_pos hc54]; done) | (simp only [own_f0, if_pos hc40, if_pos hc41, if_pos hc47, if_pos hc48, if_pos hc54]; rfl) | rfl
theorem own_lf_own_f0_2 {p0 : Int32} {p1 : Int32} {p2 : Int32} {p3 : Int32} {p4 : Int32} {p5 : Int32} {gB28 : Nat → Int32} {z1 : Int32} {z5 : Int32} {z9 : Int32} {z18 : Int32} {f21 : Nat → Int32} {f22 : Nat → Int32} {f23 : Nat → Int32} {z34 : Int32} {z39 : Int32} {z46 : Int32} {z53 : Int32} (hz1 : (((p0 &&& (15 : Int32)) + (p1 &&& (15 : Int32))) + (p2 &&& (15 : Int32))) = z1) (hz5 : (if (p5 &&& (1 : Int32)) = (0 : Int32) then (0 : Int32) else (1 : Int32)) = z5) (hz9 : (if (p5 &&& (2 : Int32)) = (0 : Int32) then (0 : Int32) else (1 : Int32)) = z9) (hz18 : (if (own_f1 (p0 &&& (15 : Int32)) (p3 &&& (63 : Int32)) (p4 &&& (63 : Int32))) = (0 : Int32) then (if (own_f1 ((p0 &&& (15 : Int32)) + (p1 &&& (15 : Int32))) (p3 &&& (63 : Int32)) (p4 &&& (63 : Int32))) = (0 : Int32) then (if (own_f1 z1 (p3 &&& (63 : Int32)) (p4 &&& (63 : Int32))) = (0 : Int32) then (0 : Int32) else (1 : Int32)) else (1 : Int32)) else (1 : Int32)) = z18) (hf21 : f21 = (own_set (fun _ => (0 : Int32)) (0 : Int32) (p0 &&& (15 : Int32)))) (hf22 : f22 = (own_set f21 (1 : Int32) ((p0 &&& (15 : Int32)) + (p1 &&& (15 : Int32))))) (hf23 : f23 = (own_set f22 (2 : Int32) z1)) (hz34 : (own_f7 (z5 &&& 1) (own_f9f_foundCount (p3 &&& (63 : Int32)) (p4 &&& (63 : Int32)) (own_f4 f23) ((1 : Int32) + (1 : Int32)) (z5 &&& 1) (0 : Int32) (0 : Int32) f23 (fun _ => (0 : Int32)) (fun _ => (0 : Int32)) (fun _ => (0 : Int32)) ((own_iushr (f23 2) (own_f4 f23)) + (2 : Int32)) gB28)) = z34) (hz39 : (own_f7 (z9 &&& 1) (own_f9f_foundCount (p3 &&& (63 : Int32)) (p4 &&& (63 : Int32)) (own_f4 f23) (((1 : Int32) + (1 : Int32)) + (1 : Int32)) (z9 &&& 1) (0 : Int32) (0 : Int32) f23 (own_f9f_AxF (p3 &&& (63 : Int32)) (p4 &&& (63 : Int32)) (own_f4 f23) ((1 : Int32) + (1 : Int32)) (z5 &&& 1) (0 : Int32) (0 : Int32) f23 (fun _ => (0 : Int32)) (fun _ => (0 : Int32)) (fun _ => (0 : Int32)) ((own_iushr (f23 2) (own_f4 f23)) + (2 : Int32)) gB28) (own_f9f_AxX (p3 &&& (63 : Int32)) (p4 &&& (63 : Int32)) (own_f4 f23) ((1 : Int32) + (1 : Int32)) (z5 &&& 1) (0 : Int32) (0 : Int32) f23 (fun _ => (0 : Int32)) (fun _ => (0 : Int32)) (fun _ => (0 : Int32)) ((own_iushr (f23 2) (own_f4 f23)) + (2 : Int32)) gB28) (own_f9f_AxD (p3 &&& (63 : Int32)) (p4 &&& (63 : Int32)) (own_f4 f23) ((1 : Int32) + (1 : Int32)) (z5 &&& 1) (0 : Int32) (0 : Int32) f23 (fun _ => (0 : Int32)) (fun _ => (0 : Int32)) (fun _ => (0 : Int32)) ((own_iushr (f23 2) (own_f4 f23)) + (2 : Int32)) gB28) ((own_iushr (f23 2) (own_f4 f23)) + (2 : Int32)) gB28)) = z39) (hz46 : (if z5 = (0 : Int32) then (0 : Int32) else (if z18 = (0 : Int32) then (0 : Int32) else (1 : Int32))) = z46) (hz53 : (if z9 = (0 : Int32) then (0 : Int32) else (if z18 = (0 : Int32) then (0 : Int32) else (1 : Int32))) = z53) (hc40 : (own_f7 (0 : Int32) (0 : Int32)) = (0 : Int32)) (hc41 : (own_f7 (z5 &&& 1) (0 : Int32)) = (0 : Int32)) (hc47 : z34 = z46) (hc48 : (own_f7 (z9 &&& 1) (0 : Int32)) = (0 : Int32)) (hc54 : ¬ (z39 = z53)) : (some (.int (0 : Int32)) : Option Value) = some (.int (own_f0 p0 p1 p2 p3 p4 p5 gB28)) := by
  subst hz53
  subst hz46
  subst hz39
  subst hz34
  subst hf23
  subst hf22
  subst hf21
  subst hz18
  subst hz9
  subst hz5
  subst hz1
  first | (simp only [own_f0, if_pos hc40, if_pos hc41, if_pos hc47, if_pos hc48, if_neg hc54]; done) | (simp only [own_f0, if_pos hc40, if_pos hc41, if_pos hc47, if_pos hc48, if_neg hc54]; rfl) | rfl
theorem own_lf_own_f0_3 {p0 : Int32} {p1 : Int32} {p2 : Int32} {p3 : Int32} {p4 : Int32} {p5 : Int32} {gB28 : Nat → Int32} {z1 : Int32} {z5 : Int32} {z9 : Int32} {z18 : Int32} {f21 : Nat → Int32} {f22 : Nat → Int32} {f23 : Nat → Int32} {z34 : Int32} {z46 : Int32} (hz1 : (((p0 &&& (15 : Int32)) + (p1 &&& (15 : Int32))) + (p2 &&& (15 : Int32))) = z1) (hz5 : (if (p5 &&& (1 : Int32)) = (0 : Int32) then (0 : Int32) else (1 : Int32)) = z5) (hz9 : (if (p5 &&& (2 : Int32)) = (0 : Int32) then (0 : Int32) else (1 : Int32)) = z9) (hz18 : (if (own_f1 (p0 &&& (15 : Int32)) (p3 &&& (63 : Int32)) (p4 &&& (63 : Int32))) = (0 : Int32) then (if (own_f1 ((p0 &&& (15 : Int32)) + (p1 &&& (15 : Int32))) (p3 &&& (63 : Int32)) (p4 &&& (63 : Int32))) = (0 : Int32) then (if (own_f1 z1 (p3 &&& (63 : Int32)) (p4 &&& (63 : Int32))) = (0 : Int32) then (0 : Int32) else (1 : Int32)) else (1 : Int32)) else (1 : Int32)) = z18) (hf21 : f21 = (own_set (fun _ => (0 : Int32)) (0 : Int32) (p0 &&& (15 : Int32)))) (hf22 : f22 = (own_set f21 (1 : Int32) ((p0 &&& (15 : Int32)) + (p1 &&& (15 : Int32))))) (hf23 : f23 = (own_set f22 (2 : Int32) z1)) (hz34 : (own_f7 (z5 &&& 1) (own_f9f_foundCount (p3 &&& (63 : Int32)) (p4 &&& (63 : Int32)) (own_f4 f23) ((1 : Int32) + (1 : Int32)) (z5 &&& 1) (0 : Int32) (0 : Int32) f23 (fun _ => (0 : Int32)) (fun _ => (0 : Int32)) (fun _ => (0 : Int32)) ((own_iushr (f23 2) (own_f4 f23)) + (2 : Int32)) gB28)) = z34) (hz46 : (if z5 = (0 : Int32) then (0 : Int32) else (if z18 = (0 : Int32) then (0 : Int32) else (1 : Int32))) = z46) (hc40 : (own_f7 (0 : Int32) (0 : Int32)) = (0 : Int32)) (hc41 : (own_f7 (z5 &&& 1) (0 : Int32)) = (0 : Int32)) (hc47 : z34 = z46) (hc48 : ¬ ((own_f7 (z9 &&& 1) (0 : Int32)) = (0 : Int32))) : (some (.int (0 : Int32)) : Option Value) = some (.int (own_f0 p0 p1 p2 p3 p4 p5 gB28)) := by
  subst hz46
  subst hz34
  subst hf23
  subst hf22
  subst hf21
  subst hz18
  subst hz9
  subst hz5
  subst hz1
  first | (simp only [own_f0, if_pos hc40, if_pos hc41, if_pos hc47, if_neg hc48]; done) | (simp only [own_f0, if_pos hc40, if_pos hc41, if_pos hc47, if_neg hc48]; rfl) | rfl
theorem own_lf_own_f0_4 {p0 : Int32} {p1 : Int32} {p2 : Int32} {p3 : Int32} {p4 : Int32} {p5 : Int32} {gB28 : Nat → Int32} {z1 : Int32} {z5 : Int32} {z18 : Int32} {f21 : Nat → Int32} {f22 : Nat → Int32} {f23 : Nat → Int32} {z34 : Int32} {z46 : Int32} (hz1 : (((p0 &&& (15 : Int32)) + (p1 &&& (15 : Int32))) + (p2 &&& (15 : Int32))) = z1) (hz5 : (if (p5 &&& (1 : Int32)) = (0 : Int32) then (0 : Int32) else (1 : Int32)) = z5) (hz18 : (if (own_f1 (p0 &&& (15 : Int32)) (p3 &&& (63 : Int32)) (p4 &&& (63 : Int32))) = (0 : Int32) then (if (own_f1 ((p0 &&& (15 : Int32)) + (p1 &&& (15 : Int32))) (p3 &&& (63 : Int32)) (p4 &&& (63 : Int32))) = (0 : Int32) then (if (own_f1 z1 (p3 &&& (63 : Int32)) (p4 &&& (63 : Int32))) = (0 : Int32) then (0 : Int32) else (1 : Int32)) else (1 : Int32)) else (1 : Int32)) = z18) (hf21 : f21 = (own_set (fun _ => (0 : Int32)) (0 : Int32) (p0 &&& (15 : Int32)))) (hf22 : f22 = (own_set f21 (1 : Int32) ((p0 &&& (15 : Int32)) + (p1 &&& (15 : Int32))))) (hf23 : f23 = (own_set f22 (2 : Int32) z1)) (hz34 : (own_f7 (z5 &&& 1) (own_f9f_foundCount (p3 &&& (63 : Int32)) (p4 &&& (63 : Int32)) (own_f4 f23) ((1 : Int32) + (1 : Int32)) (z5 &&& 1) (0 : Int32) (0 : Int32) f23 (fun _ => (0 : Int32)) (fun _ => (0 : Int32)) (fun _ => (0 : Int32)) ((own_iushr (f23 2) (own_f4 f23)) + (2 : Int32)) gB28)) = z34) (hz46 : (if z5 = (0 : Int32) then (0 : Int32) else (if z18 = (0 : Int32) then (0 : Int32) else (1 : Int32))) = z46) (hc40 : (own_f7 (0 : Int32) (0 : Int32)) = (0 : Int32)) (hc41 : (own_f7 (z5 &&& 1) (0 : Int32)) = (0 : Int32)) (hc47 : ¬ (z34 = z46)) : (some (.int (0 : Int32)) : Option Value) = some (.int (own_f0 p0 p1 p2 p3 p4 p5 gB28)) := by
  subst hz46
  subst hz34
  subst hf23
  subst hf22
  subst hf21
  subst hz18
  subst hz5
  subst hz1
  first | (simp only [own_f0, if_pos hc40, if_pos hc41, if_neg hc47]; done) | (simp only [own_f0, if_pos hc40, if_pos hc41, if_neg hc47]; rfl) | rfl
theorem own_lf_own_f0_5 {p0 : Int32} {p1 : Int32} {p2 : Int32} {p3 : Int32} {p4 : Int32} {p5 : Int32} {gB28 : Nat → Int32} {z5 : Int32} (hz5 : (if (p5 &&& (1 : Int32)) = (0 : Int32) then (0 : Int32) else (1 : Int32)) = z5) (hc40 : (own_f7 (0 : Int32) (0 : Int32)) = (0 : Int32)) (hc41 : ¬ ((own_f7 (z5 &&& 1) (0 : Int32)) = (0 : Int32))) : (some (.int (0 : Int32)) : Option Value) = some (.int (own_f0 p0 p1 p2 p3 p4 p5 gB28)) := by
  subst hz5
  first | (simp only [own_f0, if_pos hc40, if_neg hc41]; done) | (simp only [own_f0, if_pos hc40, if_neg hc41]; rfl) | rfl
theorem own_lf_own_f0_6 {p0 : Int32} {p1 : Int32} {p2 : Int32} {p3 : Int32} {p4 : Int32} {p5 : Int32} {gB28 : Nat → Int32} (hc40 : ¬ ((own_f7 (0 : Int32) (0 : Int32)) = (0 : Int32))) : (some (.int (0 : Int32)) : Option Value) = some (.int (own_f0 p0 p1 p2 p3 p4 p5 gB28)) := by
  first | (simp only [own_f0, if_neg hc40]; done) | (simp only [own_f0, if_neg hc40]; rfl) | rfl
set_option maxRecDepth 65536 in
set_option maxHeartbeats 40000000 in
theorem rm0 (l : Launch) (Z : State) (a0 : Array Value) (hw : ∀ d ∈ tables_1, d.before a0 Z = true) (ws : List Jvm.Cond) (p0 : Int32) (p1 : Int32) (p2 : Int32) (p3 : Int32) (p4 : Int32) (p5 : Int32) (h0 : Heap) (n0 : Nat) (Z0 : n0 ≤ h0.size) :
    MetFree l x (head1 (Jvm.Cond.code x code maxLocals ret :: ws) room_1) (fun a U => a = #[(.int p0), (.int p1), (.int p2), (.int p3), (.int p4), (.int p5)] ∧ Z.Warmed39 U.vm ∧ U.heap = h0) (fun _ _ _ _ _ => True) (fun _ U o U' => ∃ v L, o = .returned v ∧ own_QL (some (.int (1 : Int32))) n0 v U'.heap L ∧ FrameEnd U o U' L 24 192) := by
  refine MetFree.of_bodySF (plainFor_of_name pn_0) hisR ?_
  intro p e s m args below meth c s₁ Bd hml0 hP hK
  obtain ⟨rfl, hZ, hh⟩ := hP
  have hx := Bd.exec
  have hby := Bd.bytes
  have hml : c.maxLocals = 20 := hml0
  have hown : s.vm.findClass "com/example/reachability/reachability/CandidateListSatisfiedPinLaw" = some m.cls := findClass_of_methodNamed Bd.named
  have hnm := (name_of_methodNamed Bd.named Bd.method).1
  have hlk : meth.locks = false := BodyLoose.notSynchronized Bd
  have X0 : Stand p l e room_1 s m #[(.int p0), (.int p1), (.int p2), (.int p3), (.int p4), (.int p5)] below meth c s₁ [] 0 0 := Stand.of_body Bd
  have e0 : s₁.heap = h0 := by rw [← hh, Bd.state]; rfl
  have N0 := Fr.nil n0
  show own_Fin p.tables e below s (own_QL (some (.int (1 : Int32))) n0) 24 192 (s₁.setTop (entryFrame m #[(.int p0), (.int p1), (.int p2), (.int p3), (.int p4), (.int p5)] maxLocals))
  rw [ef_0]
  show own_Fin _ _ _ _ _ _ _ (s₁.setTop (mkF m 0 #[.val (.int p0), .val (.int p1), .val (.int p2), .val (.int p3), .val (.int p4), .val (.int p5), .unset, .unset, .unset, .unset, .unset, .unset, .unset, .unset, .unset, .unset, .unset, .unset, .unset, .unset] []))
  refine own_go (fun _ k => XS.iloadN X0.here hx rfl (hb hby at_0) rfl k) ?_
  refine own_go (fun _ k => XS.bipush X0.here hx rfl (hb hby at_1) k) ?_
  refine own_go (fun _ k => XS.iand X0.here hx rfl (hb hby at_3) rfl k) ?_
  show own_Fin _ _ _ _ _ _ _ (s₁.setTop (mkF m 4 #[.val (.int p0), .val (.int p1), .val (.int p2), .val (.int p3), .val (.int p4), .val (.int p5), .unset, .unset, .unset, .unset, .unset, .unset, .unset, .unset, .unset, .unset, .unset, .unset, .unset, .unset] [(.int (p0 &&& (15 : Int32)))]))
  refine own_go (fun _ k => XS.istore X0.here hx rfl (hb hby at_4) rfl (l' := #[.val (.int p0), .val (.int p1), .val (.int p2), .val (.int p3), .val (.int p4), .val (.int p5), .val (.int (p0 &&& (15 : Int32))), .unset, .unset, .unset, .unset, .unset, .unset, .unset, .unset, .unset, .unset, .unset, .unset, .unset]) rfl k) ?_
  show own_Fin _ _ _ _ _ _ _ (s₁.setTop (mkF m 6 #[.val (.int p0), .val (.int p1), .val (.int p2), .val (.int p3), .val (.int p4), .val (.int p5), .val (.int (p0 &&& (15 : Int32))), .unset, .unset, .unset, .unset, .unset, .unset, .unset, .unset, .unset, .unset, .unset, .unset, .unset] []))
  refine own_go (fun _ k => XS.iload X0.here hx rfl (hb hby at_6) rfl k) ?_
  refine own_go (fun _ k => XS.iloadN X0.here hx rfl (hb hby at_8) rfl k) ?_
  refine own_go (fun _ k => XS.bipush X0.here hx rfl (hb hby at_9) k) ?_
  refine own_go (fun _ k => XS.iand X0.here hx rfl (hb hby at_11) rfl k) ?_
  show own_Fin _ _ _ _ _ _ _ (s₁.setTop (mkF m 12 #[.val (.int p0), .val (.int p1), .val (.int p2), .val (.int p3), .val (.int p4), .val (.int p5), .val (.int (p0 &&& (15 : Int32))), .unset, .unset, .unset, .unset, .unset, .unset, .unset, .unset, .unset, .unset, .unset, .unset, .unset] [(.int (p1 &&& (15 : Int32))), (.int (p0 &&& (15 : Int32)))]))
  refine own_go (fun _ k => XS.iadd X0.here hx rfl (hb hby at_12) rfl k) ?_
  show own_Fin _ _ _ _ _ _ _ (s₁.setTop (mkF m 13 #[.val (.int p0), .val (.int p1), .val (.int p2), .val (.int p3), .val (.int p4), .val (.int p5), .val (.int (p0 &&& (15 : Int32))), .unset, .unset, .unset, .unset, .unset, .unset, .unset, .unset, .unset, .unset, .unset, .unset, .unset] [(.int ((p0 &&& (15 : Int32)) + (p1 &&& (15 : Int32))))]))
  refine own_go (fun _ k => XS.istore X0.here hx rfl (hb hby at_13) rfl (l' := #[.val (.int p0), .val (.int p1), .val (.int p2), .val (.int p3), .val (.int p4), .val (.int p5), .val (.int (p0 &&& (15 : Int32))), .val (.int ((p0 &&& (15 : Int32)) + (p1 &&& (15 : Int32)))), .unset, .unset, .unset, .unset, .unset, .unset, .unset, .unset, .unset, .unset, .unset, .unset]) rfl k) ?_
  show own_Fin _ _ _ _ _ _ _ (s₁.setTop (mkF m 15 #[.val (.int p0), .val (.int p1), .val (.int p2), .val (.int p3), .val (.int p4), .val (.int p5), .val (.int (p0 &&& (15 : Int32))), .val (.int ((p0 &&& (15 : Int32)) + (p1 &&& (15 : Int32)))), .unset, .unset, .unset, .unset, .unset, .unset, .unset, .unset, .unset, .unset, .unset, .unset] []))
  refine own_go (fun _ k => XS.iload X0.here hx rfl (hb hby at_15) rfl k) ?_
  refine own_go (fun _ k => XS.iloadN X0.here hx rfl (hb hby at_17) rfl k) ?_
  refine own_go (fun _ k => XS.bipush X0.here hx rfl (hb hby at_18) k) ?_
  refine own_go (fun _ k => XS.iand X0.here hx rfl (hb hby at_20) rfl k) ?_
  show own_Fin _ _ _ _ _ _ _ (s₁.setTop (mkF m 21 #[.val (.int p0), .val (.int p1), .val (.int p2), .val (.int p3), .val (.int p4), .val (.int p5), .val (.int (p0 &&& (15 : Int32))), .val (.int ((p0 &&& (15 : Int32)) + (p1 &&& (15 : Int32)))), .unset, .unset, .unset, .unset, .unset, .unset, .unset, .unset, .unset, .unset, .unset, .unset] [(.int (p2 &&& (15 : Int32))), (.int ((p0 &&& (15 : Int32)) + (p1 &&& (15 : Int32))))]))
  refine own_go (fun _ k => XS.iadd X0.here hx rfl (hb hby at_21) rfl k) ?_
  show own_Fin _ _ _ _ _ _ _ (s₁.setTop (mkF m 22 #[.val (.int p0), .val (.int p1), .val (.int p2), .val (.int p3), .val (.int p4), .val (.int p5), .val (.int (p0 &&& (15 : Int32))), .val (.int ((p0 &&& (15 : Int32)) + (p1 &&& (15 : Int32)))), .unset, .unset, .unset, .unset, .unset, .unset, .unset, .unset, .unset, .unset, .unset, .unset] [(.int (((p0 &&& (15 : Int32)) + (p1 &&& (15 : Int32))) + (p2 &&& (15 : Int32))))]))
  refine own_go (fun _ k => XS.istore X0.here hx rfl (hb hby at_22) rfl (l' := #[.val (.int p0), .val (.int p1), .val (.int p2), .val (.int p3), .val (.int p4), .val (.int p5), .val (.int (p0 &&& (15 : Int32))), .val (.int ((p0 &&& (15 : Int32)) + (p1 &&& (15 : Int32)))), .val (.int (((p0 &&& (15 : Int32)) + (p1 &&& (15 : Int32))) + (p2 &&& (15 : Int32)))), .unset, .unset, .unset, .unset, .unset, .unset, .unset, .unset, .unset, .unset, .unset]) rfl k) ?_
  show own_Fin _ _ _ _ _ _ _ (s₁.setTop (mkF m 24 #[.val (.int p0), .val (.int p1), .val (.int p2), .val (.int p3), .val (.int p4), .val (.int p5), .val (.int (p0 &&& (15 : Int32))), .val (.int ((p0 &&& (15 : Int32)) + (p1 &&& (15 : Int32)))), .val (.int (((p0 &&& (15 : Int32)) + (p1 &&& (15 : Int32))) + (p2 &&& (15 : Int32)))), .unset, .unset, .unset, .unset, .unset, .unset, .unset, .unset, .unset, .unset, .unset] []))
  generalize hz1 : (((p0 &&& (15 : Int32)) + (p1 &&& (15 : Int32))) + (p2 &&& (15 : Int32))) = z1
  show own_Fin _ _ _ _ _ _ _ (s₁.setTop (mkF m 24 #[.val (.int p0), .val (.int p1), .val (.int p2), .val (.int p3), .val (.int p4), .val (.int p5), .val (.int (p0 &&& (15 : Int32))), .val (.int ((p0 &&& (15 : Int32)) + (p1 &&& (15 : Int32)))), .val (.int z1), .unset, .unset, .unset, .unset, .unset, .unset, .unset, .unset, .unset, .unset, .unset] []))
  refine own_go (fun _ k => XS.iloadN X0.here hx rfl (hb hby at_24) rfl k) ?_
  refine own_go (fun _ k => XS.bipush X0.here hx rfl (hb hby at_25) k) ?_
  refine own_go (fun _ k => XS.iand X0.here hx rfl (hb hby at_27) rfl k) ?_
  show own_Fin _ _ _ _ _ _ _ (s₁.setTop (mkF m 28 #[.val (.int p0), .val (.int p1), .val (.int p2), .val (.int p3), .val (.int p4), .val (.int p5), .val (.int (p0 &&& (15 : Int32))), .val (.int ((p0 &&& (15 : Int32)) + (p1 &&& (15 : Int32)))), .val (.int z1), .unset, .unset, .unset, .unset, .unset, .unset, .unset, .unset, .unset, .unset, .unset] [(.int (p3 &&& (63 : Int32)))]))
  refine own_go (fun _ k => XS.istore X0.here hx rfl (hb hby at_28) rfl (l' := #[.val (.int p0), .val (.int p1), .val (.int p2), .val (.int p3), .val (.int p4), .val (.int p5), .val (.int (p0 &&& (15 : Int32))), .val (.int ((p0 &&& (15 : Int32)) + (p1 &&& (15 : Int32)))), .val (.int z1), .val (.int (p3 &&& (63 : Int32))), .unset, .unset, .unset, .unset, .unset, .unset, .unset, .unset, .unset, .unset]) rfl k) ?_
  show own_Fin _ _ _ _ _ _ _ (s₁.setTop (mkF m 30 #[.val (.int p0), .val (.int p1), .val (.int p2), .val (.int p3), .val (.int p4), .val (.int p5), .val (.int (p0 &&& (15 : Int32))), .val (.int ((p0 &&& (15 : Int32)) + (p1 &&& (15 : Int32)))), .val (.int z1), .val (.int (p3 &&& (63 : Int32))), .unset, .unset, .unset, .unset, .unset, .unset, .unset, .unset, .unset, .unset] []))
  refine own_go (fun _ k => XS.iload X0.here hx rfl (hb hby at_30) rfl k) ?_
  refine own_go (fun _ k => XS.bipush X0.here hx rfl (hb hby at_32) k) ?_
  refine own_go (fun _ k => XS.iand X0.here hx rfl (hb hby at_34) rfl k) ?_
  show own_Fin _ _ _ _ _ _ _ (s₁.setTop (mkF m 35 #[.val (.int p0), .val (.int p1), .val (.int p2), .val (.int p3), .val (.int p4), .val (.int p5), .val (.int (p0 &&& (15 : Int32))), .val (.int ((p0 &&& (15 : Int32)) + (p1 &&& (15 : Int32)))), .val (.int z1), .val (.int (p3 &&& (63 : Int32))), .unset, .unset, .unset, .unset, .unset, .unset, .unset, .unset, .unset, .unset] [(.int (p4 &&& (63 : Int32)))]))
  refine own_go (fun _ k => XS.istore X0.here hx rfl (hb hby at_35) rfl (l' := #[.val (.int p0), .val (.int p1), .val (.int p2), .val (.int p3), .val (.int p4), .val (.int p5), .val (.int (p0 &&& (15 : Int32))), .val (.int ((p0 &&& (15 : Int32)) + (p1 &&& (15 : Int32)))), .val (.int z1), .val (.int (p3 &&& (63 : Int32))), .val (.int (p4 &&& (63 : Int32))), .unset, .unset, .unset, .unset, .unset, .unset, .unset, .unset, .unset]) rfl k) ?_
  show own_Fin _ _ _ _ _ _ _ (s₁.setTop (mkF m 37 #[.val (.int p0), .val (.int p1), .val (.int p2), .val (.int p3), .val (.int p4), .val (.int p5), .val (.int (p0 &&& (15 : Int32))), .val (.int ((p0 &&& (15 : Int32)) + (p1 &&& (15 : Int32)))), .val (.int z1), .val (.int (p3 &&& (63 : Int32))), .val (.int (p4 &&& (63 : Int32))), .unset, .unset, .unset, .unset, .unset, .unset, .unset, .unset, .unset] []))
  refine own_go (fun _ k => XS.iload X0.here hx rfl (hb hby at_37) rfl k) ?_
  refine own_go (fun _ k => XS.iconst X0.here hx rfl (hb hby at_39) k) ?_
  refine own_go (fun _ k => XS.iand X0.here hx rfl (hb hby at_40) rfl k) ?_
  show own_Fin _ _ _ _ _ _ _ (s₁.setTop (mkF m 41 #[.val (.int p0), .val (.int p1), .val (.int p2), .val (.int p3), .val (.int p4), .val (.int p5), .val (.int (p0 &&& (15 : Int32))), .val (.int ((p0 &&& (15 : Int32)) + (p1 &&& (15 : Int32)))), .val (.int z1), .val (.int (p3 &&& (63 : Int32))), .val (.int (p4 &&& (63 : Int32))), .unset, .unset, .unset, .unset, .unset, .unset, .unset, .unset, .unset] [(.int (p5 &&& (1 : Int32)))]))
  have hk3 : ∀ (T' : State) (L' : List Loc), Stand p l e room_1 s m #[(.int p0), (.int p1), (.int p2), (.int p3), (.int p4), (.int p5)] below meth c T' L' 0 0 → Fr n0 L' → T'.heap = h0 → own_Fin p.tables e below s (own_QL (some (.int (1 : Int32))) n0) 24 192 (T'.setTop (mkF m 49 #[.val (.int p0), .val (.int p1), .val (.int p2), .val (.int p3), .val (.int p4), .val (.int p5), .val (.int (p0 &&& (15 : Int32))), .val (.int ((p0 &&& (15 : Int32)) + (p1 &&& (15 : Int32)))), .val (.int z1), .val (.int (p3 &&& (63 : Int32))), .val (.int (p4 &&& (63 : Int32))), .unset, .unset, .unset, .unset, .unset, .unset, .unset, .unset, .unset] [(.int (if (p5 &&& (1 : Int32)) = (0 : Int32) then (0 : Int32) else (1 : Int32)))])) := by
    intro T4 L4 X4 N4 e4
    generalize hz5 : (if (p5 &&& (1 : Int32)) = (0 : Int32) then (0 : Int32) else (1 : Int32)) = z5
    show own_Fin _ _ _ _ _ _ _ (T4.setTop (mkF m 49 #[.val (.int p0), .val (.int p1), .val (.int p2), .val (.int p3), .val (.int p4), .val (.int p5), .val (.int (p0 &&& (15 : Int32))), .val (.int ((p0 &&& (15 : Int32)) + (p1 &&& (15 : Int32)))), .val (.int z1), .val (.int (p3 &&& (63 : Int32))), .val (.int (p4 &&& (63 : Int32))), .unset, .unset, .unset, .unset, .unset, .unset, .unset, .unset, .unset] [(.int z5)]))
    refine own_go (fun _ k => XS.istore X4.here hx rfl (hb hby at_49) rfl (l' := #[.val (.int p0), .val (.int p1), .val (.int p2), .val (.int p3), .val (.int p4), .val (.int p5), .val (.int (p0 &&& (15 : Int32))), .val (.int ((p0 &&& (15 : Int32)) + (p1 &&& (15 : Int32)))), .val (.int z1), .val (.int (p3 &&& (63 : Int32))), .val (.int (p4 &&& (63 : Int32))), .val (.int z5), .unset, .unset, .unset, .unset, .unset, .unset, .unset, .unset]) rfl k) ?_
    show own_Fin _ _ _ _ _ _ _ (T4.setTop (mkF m 51 #[.val (.int p0), .val (.int p1), .val (.int p2), .val (.int p3), .val (.int p4), .val (.int p5), .val (.int (p0 &&& (15 : Int32))), .val (.int ((p0 &&& (15 : Int32)) + (p1 &&& (15 : Int32)))), .val (.int z1), .val (.int (p3 &&& (63 : Int32))), .val (.int (p4 &&& (63 : Int32))), .val (.int z5), .unset, .unset, .unset, .unset, .unset, .unset, .unset, .unset] []))
    refine own_go (fun _ k => XS.iload X4.here hx rfl (hb hby at_51) rfl k) ?_
    refine own_go (fun _ k => XS.iconst X4.here hx rfl (hb hby at_53) k) ?_
    refine own_go (fun _ k => XS.iand X4.here hx rfl (hb hby at_54) rfl k) ?_
    show own_Fin _ _ _ _ _ _ _ (T4.setTop (mkF m 55 #[.val (.int p0), .val (.int p1), .val (.int p2), .val (.int p3), .val (.int p4), .val (.int p5), .val (.int (p0 &&& (15 : Int32))), .val (.int ((p0 &&& (15 : Int32)) + (p1 &&& (15 : Int32)))), .val (.int z1), .val (.int (p3 &&& (63 : Int32))), .val (.int (p4 &&& (63 : Int32))), .val (.int z5), .unset, .unset, .unset, .unset, .unset, .unset, .unset, .unset] [(.int (p5 &&& (2 : Int32)))]))
    have hk7 : ∀ (T' : State) (L' : List Loc), Stand p l e room_1 s m #[(.int p0), (.int p1), (.int p2), (.int p3), (.int p4), (.int p5)] below meth c T' L' 0 0 → Fr n0 L' → T'.heap = h0 → own_Fin p.tables e below s (own_QL (some (.int (1 : Int32))) n0) 24 192 (T'.setTop (mkF m 63 #[.val (.int p0), .val (.int p1), .val (.int p2), .val (.int p3), .val (.int p4), .val (.int p5), .val (.int (p0 &&& (15 : Int32))), .val (.int ((p0 &&& (15 : Int32)) + (p1 &&& (15 : Int32)))), .val (.int z1), .val (.int (p3 &&& (63 : Int32))), .val (.int (p4 &&& (63 : Int32))), .val (.int z5), .unset, .unset, .unset, .unset, .unset, .unset, .unset, .unset] [(.int (if (p5 &&& (2 : Int32)) = (0 : Int32) then (0 : Int32) else (1 : Int32)))])) := by
      intro T8 L8 X8 N8 e8
      generalize hz9 : (if (p5 &&& (2 : Int32)) = (0 : Int32) then (0 : Int32) else (1 : Int32)) = z9
      show own_Fin _ _ _ _ _ _ _ (T8.setTop (mkF m 63 #[.val (.int p0), .val (.int p1), .val (.int p2), .val (.int p3), .val (.int p4), .val (.int p5), .val (.int (p0 &&& (15 : Int32))), .val (.int ((p0 &&& (15 : Int32)) + (p1 &&& (15 : Int32)))), .val (.int z1), .val (.int (p3 &&& (63 : Int32))), .val (.int (p4 &&& (63 : Int32))), .val (.int z5), .unset, .unset, .unset, .unset, .unset, .unset, .unset, .unset] [(.int z9)]))
      refine own_go (fun _ k => XS.istore X8.here hx rfl (hb hby at_63) rfl (l' := #[.val (.int p0), .val (.int p1), .val (.int p2), .val (.int p3), .val (.int p4), .val (.int p5), .val (.int (p0 &&& (15 : Int32))), .val (.int ((p0 &&& (15 : Int32)) + (p1 &&& (15 : Int32)))), .val (.int z1), .val (.int (p3 &&& (63 : Int32))), .val (.int (p4 &&& (63 : Int32))), .val (.int z5), .val (.int z9), .unset, .unset, .unset, .unset, .unset, .unset, .unset]) rfl k) ?_
      show own_Fin _ _ _ _ _ _ _ (T8.setTop (mkF m 65 #[.val (.int p0), .val (.int p1), .val (.int p2), .val (.int p3), .val (.int p4), .val (.int p5), .val (.int (p0 &&& (15 : Int32))), .val (.int ((p0 &&& (15 : Int32)) + (p1 &&& (15 : Int32)))), .val (.int z1), .val (.int (p3 &&& (63 : Int32))), .val (.int (p4 &&& (63 : Int32))), .val (.int z5), .val (.int z9), .unset, .unset, .unset, .unset, .unset, .unset, .unset] []))
      refine own_go (fun _ k => XS.iload X8.here hx rfl (hb hby at_65) rfl k) ?_
      refine own_go (fun _ k => XS.iload X8.here hx rfl (hb hby at_67) rfl k) ?_
      refine own_go (fun _ k => XS.iload X8.here hx rfl (hb hby at_69) rfl k) ?_
      obtain ⟨_, _, ⟨T10, L10, k10, n10⟩, -, X10, ⟨Lc10, hQ10, l10, y10, z10⟩, st10⟩ := Jvm.LawKit.callS X8 hx (y := (⟨"com/example/reachability/reachability/CandidateListSatisfiedPinLaw", "in", "(III)Z"⟩ : MethodName)) hown (mvT hZ (hw _ (List.mem_of_getElem? (i := 0) rfl))) (mvT hZ (hw _ (List.mem_of_getElem? (i := 1) rfl))) (mvT hZ (hw _ (List.mem_of_getElem? (i := 2) rfl))) (mvT hZ (hw _ (List.mem_of_getElem? (i := 3) rfl))) (by decide) (backOf (W := 0) (rm1 l Z a0 hw [] (p0 &&& (15 : Int32)) (p3 &&& (63 : Int32)) (p4 &&& (63 : Int32)) h0 n0 Z0) hZ (hw _ (List.mem_of_getElem? (i := 3) rfl)) (hw _ (List.mem_of_getElem? (i := 2) rfl)) (by decide) (by decide)) (g := (mkF m 71 #[.val (.int p0), .val (.int p1), .val (.int p2), .val (.int p3), .val (.int p4), .val (.int p5), .val (.int (p0 &&& (15 : Int32))), .val (.int ((p0 &&& (15 : Int32)) + (p1 &&& (15 : Int32)))), .val (.int z1), .val (.int (p3 &&& (63 : Int32))), .val (.int (p4 &&& (63 : Int32))), .val (.int z5), .val (.int z9), .unset, .unset, .unset, .unset, .unset, .unset, .unset] [(.int (p4 &&& (63 : Int32))), (.int (p3 &&& (63 : Int32))), (.int (p0 &&& (15 : Int32)))])) rfl (by rw [hml]; rfl) (argsL := [(.int (p0 &&& (15 : Int32))), (.int (p3 &&& (63 : Int32))), (.int (p4 &&& (63 : Int32)))]) (rest := []) (lenOf own_pd497 rfl) rfl (by show 2 * 0 + _ ≤ _; exact Nat.le_of_eq rfl) (hb hby at_71) (fun _ _ => ⟨rfl, e8, (by decide : 0 + 0 ≤ _), (by decide : 0 + 0 ≤ _)⟩)
      dsimp only [Pt.U, Pt.locs, Pt.cells, Pt.slots] at X10 l10 y10 z10 st10 hQ10
      replace y10 : 0 = k10 := y10.symm
      replace z10 : 0 = n10 := z10.symm
      subst y10 z10
      obtain ⟨rfl, N10q, e10⟩ := hQ10
      have N10 : Fr n0 L10 := by rw [l10]; exact Fr.app N8 N10q
      refine own_go (fun tg k => st10 tg k) ?_
      show own_Fin _ _ _ _ _ _ _ (T10.setTop (mkF m 74 #[.val (.int p0), .val (.int p1), .val (.int p2), .val (.int p3), .val (.int p4), .val (.int p5), .val (.int (p0 &&& (15 : Int32))), .val (.int ((p0 &&& (15 : Int32)) + (p1 &&& (15 : Int32)))), .val (.int z1), .val (.int (p3 &&& (63 : Int32))), .val (.int (p4 &&& (63 : Int32))), .val (.int z5), .val (.int z9), .unset, .unset, .unset, .unset, .unset, .unset, .unset] [(.int (own_f1 (p0 &&& (15 : Int32)) (p3 &&& (63 : Int32)) (p4 &&& (63 : Int32))))]))
      have hk12 : ∀ (T' : State) (L' : List Loc), Stand p l e room_1 s m #[(.int p0), (.int p1), (.int p2), (.int p3), (.int p4), (.int p5)] below meth c T' L' 0 0 → Fr n0 L' → T'.heap = h0 → own_Fin p.tables e below s (own_QL (some (.int (1 : Int32))) n0) 24 192 (T'.setTop (mkF m 106 #[.val (.int p0), .val (.int p1), .val (.int p2), .val (.int p3), .val (.int p4), .val (.int p5), .val (.int (p0 &&& (15 : Int32))), .val (.int ((p0 &&& (15 : Int32)) + (p1 &&& (15 : Int32)))), .val (.int z1), .val (.int (p3 &&& (63 : Int32))), .val (.int (p4 &&& (63 : Int32))), .val (.int z5), .val (.int z9), .unset, .unset, .unset, .unset, .unset, .unset, .unset] [(.int (if (own_f1 (p0 &&& (15 : Int32)) (p3 &&& (63 : Int32)) (p4 &&& (63 : Int32))) = (0 : Int32) then (if (own_f1 ((p0 &&& (15 : Int32)) + (p1 &&& (15 : Int32))) (p3 &&& (63 : Int32)) (p4 &&& (63 : Int32))) = (0 : Int32) then (if (own_f1 z1 (p3 &&& (63 : Int32)) (p4 &&& (63 : Int32))) = (0 : Int32) then (0 : Int32) else (1 : Int32)) else (1 : Int32)) else (1 : Int32)))])) := by
        intro T17 L17 X17 N17 e17
        generalize hz18 : (if (own_f1 (p0 &&& (15 : Int32)) (p3 &&& (63 : Int32)) (p4 &&& (63 : Int32))) = (0 : Int32) then (if (own_f1 ((p0 &&& (15 : Int32)) + (p1 &&& (15 : Int32))) (p3 &&& (63 : Int32)) (p4 &&& (63 : Int32))) = (0 : Int32) then (if (own_f1 z1 (p3 &&& (63 : Int32)) (p4 &&& (63 : Int32))) = (0 : Int32) then (0 : Int32) else (1 : Int32)) else (1 : Int32)) else (1 : Int32)) = z18
        show own_Fin _ _ _ _ _ _ _ (T17.setTop (mkF m 106 #[.val (.int p0), .val (.int p1), .val (.int p2), .val (.int p3), .val (.int p4), .val (.int p5), .val (.int (p0 &&& (15 : Int32))), .val (.int ((p0 &&& (15 : Int32)) + (p1 &&& (15 : Int32)))), .val (.int z1), .val (.int (p3 &&& (63 : Int32))), .val (.int (p4 &&& (63 : Int32))), .val (.int z5), .val (.int z9), .unset, .unset, .unset, .unset, .unset, .unset, .unset] [(.int z18)]))
        refine own_go (fun _ k => XS.istore X17.here hx rfl (hb hby at_106) rfl (l' := #[.val (.int p0), .val (.int p1), .val (.int p2), .val (.int p3), .val (.int p4), .val (.int p5), .val (.int (p0 &&& (15 : Int32))), .val (.int ((p0 &&& (15 : Int32)) + (p1 &&& (15 : Int32)))), .val (.int z1), .val (.int (p3 &&& (63 : Int32))), .val (.int (p4 &&& (63 : Int32))), .val (.int z5), .val (.int z9), .val (.int z18), .unset, .unset, .unset, .unset, .unset, .unset]) rfl k) ?_
        show own_Fin _ _ _ _ _ _ _ (T17.setTop (mkF m 108 #[.val (.int p0), .val (.int p1), .val (.int p2), .val (.int p3), .val (.int p4), .val (.int p5), .val (.int (p0 &&& (15 : Int32))), .val (.int ((p0 &&& (15 : Int32)) + (p1 &&& (15 : Int32)))), .val (.int z1), .val (.int (p3 &&& (63 : Int32))), .val (.int (p4 &&& (63 : Int32))), .val (.int z5), .val (.int z9), .val (.int z18), .unset, .unset, .unset, .unset, .unset, .unset] []))
        obtain ⟨T19, h19, X19, e19, E19, A19, D19, -, st19⟩ := newO X17 hx hZ hown (hw _ (List.mem_of_getElem? (i := 4) rfl)) (hw _ (List.mem_of_getElem? (i := 5) rfl)) (hw _ (List.mem_of_getElem? (i := 6) rfl)) e17 (g := (mkF m 108 #[.val (.int p0), .val (.int p1), .val (.int p2), .val (.int p3), .val (.int p4), .val (.int p5), .val (.int (p0 &&& (15 : Int32))), .val (.int ((p0 &&& (15 : Int32)) + (p1 &&& (15 : Int32)))), .val (.int z1), .val (.int (p3 &&& (63 : Int32))), .val (.int (p4 &&& (63 : Int32))), .val (.int z5), .val (.int z9), .val (.int z18), .unset, .unset, .unset, .unset, .unset, .unset] [])) rfl (hb hby at_108) (by decide) (by decide)
        obtain ⟨b19, g19⟩ : ∃ z, z = h0.size := ⟨_, rfl⟩
        rw [← g19] at A19 D19 st19
        have ge_b19 : n0 ≤ b19 := Nat.le_trans Z0 (Nat.le_of_eq g19.symm)
        have Z19 : n0 ≤ h19.size := Nat.le_trans Z0 E19.1
        have E_b19_19 : Exa Z h19 b19 "com/example/reachability/reachability/CandidateList" := A19
        have F_search_b19_19 : Fld Z h19 b19 "com/example/reachability/reachability/CandidateList" "search" "I" (.int (0 : Int32)) := D19 (Or.inl (hw _ (List.mem_of_getElem? (i := 15) rfl))) (ty := .int) (by decide)
        have F_runs_b19_19 : Fld Z h19 b19 "com/example/reachability/reachability/CandidateList" "runs" "[I" .null := D19 (Or.inl (hw _ (List.mem_of_getElem? (i := 17) rfl))) (ty := (.array .int)) (by decide)
        have F_numbers_b19_19 : Fld Z h19 b19 "com/example/reachability/reachability/CandidateList" "numbers" "[I" .null := D19 (Or.inr (hw _ (List.mem_of_getElem? (i := 19) rfl))) (ty := (.array .int)) (by decide)
        have F_elements_b19_19 : Fld Z h19 b19 "com/example/reachability/reachability/CandidateList" "elements" "[I" .null := D19 (Or.inr (hw _ (List.mem_of_getElem? (i := 21) rfl))) (ty := (.array .int)) (by decide)
        have F_foundIn_b19_19 : Fld Z h19 b19 "com/example/reachability/reachability/CandidateList" "foundIn" "[I" .null := D19 (Or.inr (hw _ (List.mem_of_getElem? (i := 23) rfl))) (ty := (.array .int)) (by decide)
        have F_next_b19_19 : Fld Z h19 b19 "com/example/reachability/reachability/CandidateList" "next" "[I" .null := D19 (Or.inr (hw _ (List.mem_of_getElem? (i := 25) rfl))) (ty := (.array .int)) (by decide)
        have F_found_b19_19 : Fld Z h19 b19 "com/example/reachability/reachability/CandidateList" "found" "[I" .null := D19 (Or.inr (hw _ (List.mem_of_getElem? (i := 27) rfl))) (ty := (.array .int)) (by decide)
        have F_bucketShift_b19_19 : Fld Z h19 b19 "com/example/reachability/reachability/CandidateList" "bucketShift" "I" (.int (0 : Int32)) := D19 (Or.inr (hw _ (List.mem_of_getElem? (i := 36) rfl))) (ty := .int) (by decide)
        have F_bucketStart_b19_19 : Fld Z h19 b19 "com/example/reachability/reachability/CandidateList" "bucketStart" "[I" .null := D19 (Or.inr (hw _ (List.mem_of_getElem? (i := 41) rfl))) (ty := (.array .int)) (by decide)
        have F_firstOnly_b19_19 : Fld Z h19 b19 "com/example/reachability/reachability/CandidateList" "firstOnly" "Z" (.int (0 : Int32)) := D19 (Or.inl (hw _ (List.mem_of_getElem? (i := 48) rfl))) (ty := .boolean) (by decide)
        have F_foundCount_b19_19 : Fld Z h19 b19 "com/example/reachability/reachability/CandidateList" "foundCount" "I" (.int (0 : Int32)) := D19 (Or.inl (hw _ (List.mem_of_getElem? (i := 56) rfl))) (ty := .int) (by decide)
        have F_forRuns_b19_19 : Fld Z h19 b19 "com/example/reachability/reachability/CandidateList" "forRuns" "Z" (.int (0 : Int32)) := D19 (Or.inl (hw _ (List.mem_of_getElem? (i := 58) rfl))) (ty := .boolean) (by decide)
        have F_runsLength_b19_19 : Fld Z h19 b19 "com/example/reachability/reachability/CandidateList" "runsLength" "I" (.int (0 : Int32)) := D19 (Or.inl (hw _ (List.mem_of_getElem? (i := 60) rfl))) (ty := .int) (by decide)
        refine own_go (fun tg k => st19 tg k) ?_
        show own_Fin _ _ _ _ _ _ _ (T19.setTop (mkF m 111 #[.val (.int p0), .val (.int p1), .val (.int p2), .val (.int p3), .val (.int p4), .val (.int p5), .val (.int (p0 &&& (15 : Int32))), .val (.int ((p0 &&& (15 : Int32)) + (p1 &&& (15 : Int32)))), .val (.int z1), .val (.int (p3 &&& (63 : Int32))), .val (.int (p4 &&& (63 : Int32))), .val (.int z5), .val (.int z9), .val (.int z18), .unset, .unset, .unset, .unset, .unset, .unset] [(.ref b19)]))
        refine own_go (fun _ k => XS.dup X19.here hx rfl (hb hby at_111) rfl rfl k) ?_
        refine own_go (fun _ k => XS.iconst X19.here hx rfl (hb hby at_112) k) ?_
        obtain ⟨T20, h20, k20, X20, e20, E20, A20, st20⟩ := newP X19 hx hZ (hw _ (List.mem_of_getElem? (i := 7) rfl)) e19 (g := (mkF m 113 #[.val (.int p0), .val (.int p1), .val (.int p2), .val (.int p3), .val (.int p4), .val (.int p5), .val (.int (p0 &&& (15 : Int32))), .val (.int ((p0 &&& (15 : Int32)) + (p1 &&& (15 : Int32)))), .val (.int z1), .val (.int (p3 &&& (63 : Int32))), .val (.int (p4 &&& (63 : Int32))), .val (.int z5), .val (.int z9), .val (.int z18), .unset, .unset, .unset, .unset, .unset, .unset] [(.int (3 : Int32)), (.ref b19), (.ref b19)])) rfl (hb hby at_113) rfl (by decide) (cap := 3) (by decide) (by decide) (by decide) (by decide)
        obtain ⟨b20, g20⟩ : ∃ z, z = h19.size := ⟨_, rfl⟩
        rw [← g20] at A20 st20
        have ne_b19_b20 : b19 ≠ b20 := Nat.ne_of_lt (Nat.lt_of_lt_of_le E_b19_19.lt (Nat.le_of_eq g20.symm))
        have ge_b20 : n0 ≤ b20 := Nat.le_trans Z19 (Nat.le_of_eq g20.symm)
        have E_b19_20 := E_b19_19.ext E20
        have F_search_b19_20 := F_search_b19_19.ext E20
        have F_runs_b19_20 := F_runs_b19_19.ext E20
        have F_numbers_b19_20 := F_numbers_b19_19.ext E20
        have F_elements_b19_20 := F_elements_b19_19.ext E20
        have F_foundIn_b19_20 := F_foundIn_b19_19.ext E20
        have F_next_b19_20 := F_next_b19_19.ext E20
        have F_found_b19_20 := F_found_b19_19.ext E20
        have F_bucketShift_b19_20 := F_bucketShift_b19_19.ext E20
        have F_bucketStart_b19_20 := F_bucketStart_b19_19.ext E20
        have F_firstOnly_b19_20 := F_firstOnly_b19_19.ext E20
        have F_foundCount_b19_20 := F_foundCount_b19_19.ext E20
        have F_forRuns_b19_20 := F_forRuns_b19_19.ext E20
        have F_runsLength_b19_20 := F_runsLength_b19_19.ext E20
        have Z20 : n0 ≤ h20.size := Nat.le_trans Z19 E20.1
        have A_b20_20 : own_Arf Z h20 b20 .int (3 : Int32) (fun i => .int ((fun _ => (0 : Int32)) i)) := own_Arf.new A20 (by decide)
        refine own_go (fun tg k => st20 tg k) ?_
        show own_Fin _ _ _ _ _ _ _ (T20.setTop (mkF m 115 #[.val (.int p0), .val (.int p1), .val (.int p2), .val (.int p3), .val (.int p4), .val (.int p5), .val (.int (p0 &&& (15 : Int32))), .val (.int ((p0 &&& (15 : Int32)) + (p1 &&& (15 : Int32)))), .val (.int z1), .val (.int (p3 &&& (63 : Int32))), .val (.int (p4 &&& (63 : Int32))), .val (.int z5), .val (.int z9), .val (.int z18), .unset, .unset, .unset, .unset, .unset, .unset] [(.ref b20), (.ref b19), (.ref b19)]))
        refine own_go (fun _ k => XS.dup X20.here hx rfl (hb hby at_115) rfl rfl k) ?_
        refine own_go (fun _ k => XS.iconst X20.here hx rfl (hb hby at_116) k) ?_
        refine own_go (fun _ k => XS.iload X20.here hx rfl (hb hby at_117) rfl k) ?_
        obtain ⟨T21, h21, X21, e21, W21, A_b20_21, st21⟩ := own_stI X20 hx hZ e20 A_b20_20 (j := (0 : Int32)) ⟨by decide, by decide⟩ (g := (mkF m 119 #[.val (.int p0), .val (.int p1), .val (.int p2), .val (.int p3), .val (.int p4), .val (.int p5), .val (.int (p0 &&& (15 : Int32))), .val (.int ((p0 &&& (15 : Int32)) + (p1 &&& (15 : Int32)))), .val (.int z1), .val (.int (p3 &&& (63 : Int32))), .val (.int (p4 &&& (63 : Int32))), .val (.int z5), .val (.int z9), .val (.int z18), .unset, .unset, .unset, .unset, .unset, .unset] [(.int (p0 &&& (15 : Int32))), (.int (0 : Int32)), (.ref b20), (.ref b20), (.ref b19), (.ref b19)])) rfl rfl (hb hby at_119)
        have E_b19_21 := E_b19_20.wr W21
        have F_search_b19_21 := F_search_b19_20.other W21 (Or.inl ne_b19_b20)
        have F_runs_b19_21 := F_runs_b19_20.other W21 (Or.inl ne_b19_b20)
        have F_numbers_b19_21 := F_numbers_b19_20.other W21 (Or.inl ne_b19_b20)
        have F_elements_b19_21 := F_elements_b19_20.other W21 (Or.inl ne_b19_b20)
        have F_foundIn_b19_21 := F_foundIn_b19_20.other W21 (Or.inl ne_b19_b20)
        have F_next_b19_21 := F_next_b19_20.other W21 (Or.inl ne_b19_b20)
        have F_found_b19_21 := F_found_b19_20.other W21 (Or.inl ne_b19_b20)
        have F_bucketShift_b19_21 := F_bucketShift_b19_20.other W21 (Or.inl ne_b19_b20)
        have F_bucketStart_b19_21 := F_bucketStart_b19_20.other W21 (Or.inl ne_b19_b20)
        have F_firstOnly_b19_21 := F_firstOnly_b19_20.other W21 (Or.inl ne_b19_b20)
        have F_foundCount_b19_21 := F_foundCount_b19_20.other W21 (Or.inl ne_b19_b20)
        have F_forRuns_b19_21 := F_forRuns_b19_20.other W21 (Or.inl ne_b19_b20)
        have F_runsLength_b19_21 := F_runsLength_b19_20.other W21 (Or.inl ne_b19_b20)
        have N21 := Fr.snoc X21 N17 ge_b20
        have Z21 : n0 ≤ h21.size := Nat.le_trans Z20 (Keep.of_wr W21).1
        obtain ⟨f21, hf21⟩ : ∃ z, z = (own_set (fun _ => (0 : Int32)) (0 : Int32) (p0 &&& (15 : Int32))) := ⟨_, rfl⟩
        rw [← hf21] at A_b20_21
        refine own_go (fun tg k => st21 tg k) ?_
        show own_Fin _ _ _ _ _ _ _ (T21.setTop (mkF m 120 #[.val (.int p0), .val (.int p1), .val (.int p2), .val (.int p3), .val (.int p4), .val (.int p5), .val (.int (p0 &&& (15 : Int32))), .val (.int ((p0 &&& (15 : Int32)) + (p1 &&& (15 : Int32)))), .val (.int z1), .val (.int (p3 &&& (63 : Int32))), .val (.int (p4 &&& (63 : Int32))), .val (.int z5), .val (.int z9), .val (.int z18), .unset, .unset, .unset, .unset, .unset, .unset] [(.ref b20), (.ref b19), (.ref b19)]))
        refine own_go (fun _ k => XS.dup X21.here hx rfl (hb hby at_120) rfl rfl k) ?_
        refine own_go (fun _ k => XS.iconst X21.here hx rfl (hb hby at_121) k) ?_
        refine own_go (fun _ k => XS.iload X21.here hx rfl (hb hby at_122) rfl k) ?_
        obtain ⟨T22, h22, X22, e22, W22, A_b20_22, st22⟩ := own_stI X21 hx hZ e21 A_b20_21 (j := (1 : Int32)) ⟨by decide, by decide⟩ (g := (mkF m 124 #[.val (.int p0), .val (.int p1), .val (.int p2), .val (.int p3), .val (.int p4), .val (.int p5), .val (.int (p0 &&& (15 : Int32))), .val (.int ((p0 &&& (15 : Int32)) + (p1 &&& (15 : Int32)))), .val (.int z1), .val (.int (p3 &&& (63 : Int32))), .val (.int (p4 &&& (63 : Int32))), .val (.int z5), .val (.int z9), .val (.int z18), .unset, .unset, .unset, .unset, .unset, .unset] [(.int ((p0 &&& (15 : Int32)) + (p1 &&& (15 : Int32)))), (.int (1 : Int32)), (.ref b20), (.ref b20), (.ref b19), (.ref b19)])) rfl rfl (hb hby at_124)
        have E_b19_22 := E_b19_21.wr W22
        have F_search_b19_22 := F_search_b19_21.other W22 (Or.inl ne_b19_b20)
        have F_runs_b19_22 := F_runs_b19_21.other W22 (Or.inl ne_b19_b20)
        have F_numbers_b19_22 := F_numbers_b19_21.other W22 (Or.inl ne_b19_b20)
        have F_elements_b19_22 := F_elements_b19_21.other W22 (Or.inl ne_b19_b20)
        have F_foundIn_b19_22 := F_foundIn_b19_21.other W22 (Or.inl ne_b19_b20)
        have F_next_b19_22 := F_next_b19_21.other W22 (Or.inl ne_b19_b20)
        have F_found_b19_22 := F_found_b19_21.other W22 (Or.inl ne_b19_b20)
        have F_bucketShift_b19_22 := F_bucketShift_b19_21.other W22 (Or.inl ne_b19_b20)
        have F_bucketStart_b19_22 := F_bucketStart_b19_21.other W22 (Or.inl ne_b19_b20)
        have F_firstOnly_b19_22 := F_firstOnly_b19_21.other W22 (Or.inl ne_b19_b20)
        have F_foundCount_b19_22 := F_foundCount_b19_21.other W22 (Or.inl ne_b19_b20)
        have F_forRuns_b19_22 := F_forRuns_b19_21.other W22 (Or.inl ne_b19_b20)
        have F_runsLength_b19_22 := F_runsLength_b19_21.other W22 (Or.inl ne_b19_b20)
        have N22 := Fr.snoc X22 N21 ge_b20
        have Z22 : n0 ≤ h22.size := Nat.le_trans Z21 (Keep.of_wr W22).1
        obtain ⟨f22, hf22⟩ : ∃ z, z = (own_set f21 (1 : Int32) ((p0 &&& (15 : Int32)) + (p1 &&& (15 : Int32)))) := ⟨_, rfl⟩
        rw [← hf22] at A_b20_22
        refine own_go (fun tg k => st22 tg k) ?_
        show own_Fin _ _ _ _ _ _ _ (T22.setTop (mkF m 125 #[.val (.int p0), .val (.int p1), .val (.int p2), .val (.int p3), .val (.int p4), .val (.int p5), .val (.int (p0 &&& (15 : Int32))), .val (.int ((p0 &&& (15 : Int32)) + (p1 &&& (15 : Int32)))), .val (.int z1), .val (.int (p3 &&& (63 : Int32))), .val (.int (p4 &&& (63 : Int32))), .val (.int z5), .val (.int z9), .val (.int z18), .unset, .unset, .unset, .unset, .unset, .unset] [(.ref b20), (.ref b19), (.ref b19)]))
        refine own_go (fun _ k => XS.dup X22.here hx rfl (hb hby at_125) rfl rfl k) ?_
        refine own_go (fun _ k => XS.iconst X22.here hx rfl (hb hby at_126) k) ?_
        refine own_go (fun _ k => XS.iload X22.here hx rfl (hb hby at_127) rfl k) ?_
        obtain ⟨T23, h23, X23, e23, W23, A_b20_23, st23⟩ := own_stI X22 hx hZ e22 A_b20_22 (j := (2 : Int32)) ⟨by decide, by decide⟩ (g := (mkF m 129 #[.val (.int p0), .val (.int p1), .val (.int p2), .val (.int p3), .val (.int p4), .val (.int p5), .val (.int (p0 &&& (15 : Int32))), .val (.int ((p0 &&& (15 : Int32)) + (p1 &&& (15 : Int32)))), .val (.int z1), .val (.int (p3 &&& (63 : Int32))), .val (.int (p4 &&& (63 : Int32))), .val (.int z5), .val (.int z9), .val (.int z18), .unset, .unset, .unset, .unset, .unset, .unset] [(.int z1), (.int (2 : Int32)), (.ref b20), (.ref b20), (.ref b19), (.ref b19)])) rfl rfl (hb hby at_129)
        have E_b19_23 := E_b19_22.wr W23
        have F_search_b19_23 := F_search_b19_22.other W23 (Or.inl ne_b19_b20)
        have F_runs_b19_23 := F_runs_b19_22.other W23 (Or.inl ne_b19_b20)
        have F_numbers_b19_23 := F_numbers_b19_22.other W23 (Or.inl ne_b19_b20)
        have F_elements_b19_23 := F_elements_b19_22.other W23 (Or.inl ne_b19_b20)
        have F_foundIn_b19_23 := F_foundIn_b19_22.other W23 (Or.inl ne_b19_b20)
        have F_next_b19_23 := F_next_b19_22.other W23 (Or.inl ne_b19_b20)
        have F_found_b19_23 := F_found_b19_22.other W23 (Or.inl ne_b19_b20)
        have F_bucketShift_b19_23 := F_bucketShift_b19_22.other W23 (Or.inl ne_b19_b20)
        have F_bucketStart_b19_23 := F_bucketStart_b19_22.other W23 (Or.inl ne_b19_b20)
        have F_firstOnly_b19_23 := F_firstOnly_b19_22.other W23 (Or.inl ne_b19_b20)
        have F_foundCount_b19_23 := F_foundCount_b19_22.other W23 (Or.inl ne_b19_b20)
        have F_forRuns_b19_23 := F_forRuns_b19_22.other W23 (Or.inl ne_b19_b20)
        have F_runsLength_b19_23 := F_runsLength_b19_22.other W23 (Or.inl ne_b19_b20)
        have N23 := Fr.snoc X23 N22 ge_b20
        have Z23 : n0 ≤ h23.size := Nat.le_trans Z22 (Keep.of_wr W23).1
        obtain ⟨f23, hf23⟩ : ∃ z, z = (own_set f22 (2 : Int32) z1) := ⟨_, rfl⟩
        rw [← hf23] at A_b20_23
        refine own_go (fun tg k => st23 tg k) ?_
        show own_Fin _ _ _ _ _ _ _ (T23.setTop (mkF m 130 #[.val (.int p0), .val (.int p1), .val (.int p2), .val (.int p3), .val (.int p4), .val (.int p5), .val (.int (p0 &&& (15 : Int32))), .val (.int ((p0 &&& (15 : Int32)) + (p1 &&& (15 : Int32)))), .val (.int z1), .val (.int (p3 &&& (63 : Int32))), .val (.int (p4 &&& (63 : Int32))), .val (.int z5), .val (.int z9), .val (.int z18), .unset, .unset, .unset, .unset, .unset, .unset] [(.ref b20), (.ref b19), (.ref b19)]))
        refine own_go (fun _ k => XS.iconst X23.here hx rfl (hb hby at_130) k) ?_
        obtain ⟨T24, h24, k24, X24, e24, E24, A24, st24⟩ := newP X23 hx hZ (hw _ (List.mem_of_getElem? (i := 7) rfl)) e23 (g := (mkF m 131 #[.val (.int p0), .val (.int p1), .val (.int p2), .val (.int p3), .val (.int p4), .val (.int p5), .val (.int (p0 &&& (15 : Int32))), .val (.int ((p0 &&& (15 : Int32)) + (p1 &&& (15 : Int32)))), .val (.int z1), .val (.int (p3 &&& (63 : Int32))), .val (.int (p4 &&& (63 : Int32))), .val (.int z5), .val (.int z9), .val (.int z18), .unset, .unset, .unset, .unset, .unset, .unset] [(.int (3 : Int32)), (.ref b20), (.ref b19), (.ref b19)])) rfl (hb hby at_131) rfl (by decide) (cap := 3) (by decide) (by decide) (by decide) (by decide)
        obtain ⟨b24, g24⟩ : ∃ z, z = h23.size := ⟨_, rfl⟩
        rw [← g24] at A24 st24
        have ne_b19_b24 : b19 ≠ b24 := Nat.ne_of_lt (Nat.lt_of_lt_of_le E_b19_23.lt (Nat.le_of_eq g24.symm))
        have ne_b20_b24 : b20 ≠ b24 := Nat.ne_of_lt (Nat.lt_of_lt_of_le A_b20_23.lt (Nat.le_of_eq g24.symm))
        have ge_b24 : n0 ≤ b24 := Nat.le_trans Z23 (Nat.le_of_eq g24.symm)
        have E_b19_24 := E_b19_23.ext E24
        have F_search_b19_24 := F_search_b19_23.ext E24
        have F_runs_b19_24 := F_runs_b19_23.ext E24
        have F_numbers_b19_24 := F_numbers_b19_23.ext E24
        have F_elements_b19_24 := F_elements_b19_23.ext E24
        have F_foundIn_b19_24 := F_foundIn_b19_23.ext E24
        have F_next_b19_24 := F_next_b19_23.ext E24
        have F_found_b19_24 := F_found_b19_23.ext E24
        have F_bucketShift_b19_24 := F_bucketShift_b19_23.ext E24
        have F_bucketStart_b19_24 := F_bucketStart_b19_23.ext E24
        have F_firstOnly_b19_24 := F_firstOnly_b19_23.ext E24
        have F_foundCount_b19_24 := F_foundCount_b19_23.ext E24
        have F_forRuns_b19_24 := F_forRuns_b19_23.ext E24
        have F_runsLength_b19_24 := F_runsLength_b19_23.ext E24
        have A_b20_24 := A_b20_23.ext E24
        have Z24 : n0 ≤ h24.size := Nat.le_trans Z23 E24.1
        have A_b24_24 : own_Arf Z h24 b24 .int (3 : Int32) (fun i => .int ((fun _ => (0 : Int32)) i)) := own_Arf.new A24 (by decide)
        refine own_go (fun tg k => st24 tg k) ?_
        show own_Fin _ _ _ _ _ _ _ (T24.setTop (mkF m 133 #[.val (.int p0), .val (.int p1), .val (.int p2), .val (.int p3), .val (.int p4), .val (.int p5), .val (.int (p0 &&& (15 : Int32))), .val (.int ((p0 &&& (15 : Int32)) + (p1 &&& (15 : Int32)))), .val (.int z1), .val (.int (p3 &&& (63 : Int32))), .val (.int (p4 &&& (63 : Int32))), .val (.int z5), .val (.int z9), .val (.int z18), .unset, .unset, .unset, .unset, .unset, .unset] [(.ref b24), (.ref b20), (.ref b19), (.ref b19)]))
        refine own_go (fun _ k => XS.dup X24.here hx rfl (hb hby at_133) rfl rfl k) ?_
        refine own_go (fun _ k => XS.iconst X24.here hx rfl (hb hby at_134) k) ?_
        refine own_go (fun _ k => XS.bipush X24.here hx rfl (hb hby at_135) k) ?_
        obtain ⟨T25, h25, X25, e25, W25, A_b24_25, st25⟩ := own_stI X24 hx hZ e24 A_b24_24 (j := (0 : Int32)) ⟨by decide, by decide⟩ (g := (mkF m 137 #[.val (.int p0), .val (.int p1), .val (.int p2), .val (.int p3), .val (.int p4), .val (.int p5), .val (.int (p0 &&& (15 : Int32))), .val (.int ((p0 &&& (15 : Int32)) + (p1 &&& (15 : Int32)))), .val (.int z1), .val (.int (p3 &&& (63 : Int32))), .val (.int (p4 &&& (63 : Int32))), .val (.int z5), .val (.int z9), .val (.int z18), .unset, .unset, .unset, .unset, .unset, .unset] [(.int (7 : Int32)), (.int (0 : Int32)), (.ref b24), (.ref b24), (.ref b20), (.ref b19), (.ref b19)])) rfl rfl (hb hby at_137)
        have E_b19_25 := E_b19_24.wr W25
        have F_search_b19_25 := F_search_b19_24.other W25 (Or.inl ne_b19_b24)
        have F_runs_b19_25 := F_runs_b19_24.other W25 (Or.inl ne_b19_b24)
        have F_numbers_b19_25 := F_numbers_b19_24.other W25 (Or.inl ne_b19_b24)
        have F_elements_b19_25 := F_elements_b19_24.other W25 (Or.inl ne_b19_b24)
        have F_foundIn_b19_25 := F_foundIn_b19_24.other W25 (Or.inl ne_b19_b24)
        have F_next_b19_25 := F_next_b19_24.other W25 (Or.inl ne_b19_b24)
        have F_found_b19_25 := F_found_b19_24.other W25 (Or.inl ne_b19_b24)
        have F_bucketShift_b19_25 := F_bucketShift_b19_24.other W25 (Or.inl ne_b19_b24)
        have F_bucketStart_b19_25 := F_bucketStart_b19_24.other W25 (Or.inl ne_b19_b24)
        have F_firstOnly_b19_25 := F_firstOnly_b19_24.other W25 (Or.inl ne_b19_b24)
        have F_foundCount_b19_25 := F_foundCount_b19_24.other W25 (Or.inl ne_b19_b24)
        have F_forRuns_b19_25 := F_forRuns_b19_24.other W25 (Or.inl ne_b19_b24)
        have F_runsLength_b19_25 := F_runsLength_b19_24.other W25 (Or.inl ne_b19_b24)
        have A_b20_25 := A_b20_24.other W25 ne_b20_b24
        have N25 := Fr.snoc X25 N23 ge_b24
        have Z25 : n0 ≤ h25.size := Nat.le_trans Z24 (Keep.of_wr W25).1
        obtain ⟨f25, hf25⟩ : ∃ z, z = (own_set (fun _ => (0 : Int32)) (0 : Int32) (7 : Int32)) := ⟨_, rfl⟩
        rw [← hf25] at A_b24_25
        refine own_go (fun tg k => st25 tg k) ?_
        show own_Fin _ _ _ _ _ _ _ (T25.setTop (mkF m 138 #[.val (.int p0), .val (.int p1), .val (.int p2), .val (.int p3), .val (.int p4), .val (.int p5), .val (.int (p0 &&& (15 : Int32))), .val (.int ((p0 &&& (15 : Int32)) + (p1 &&& (15 : Int32)))), .val (.int z1), .val (.int (p3 &&& (63 : Int32))), .val (.int (p4 &&& (63 : Int32))), .val (.int z5), .val (.int z9), .val (.int z18), .unset, .unset, .unset, .unset, .unset, .unset] [(.ref b24), (.ref b20), (.ref b19), (.ref b19)]))
        refine own_go (fun _ k => XS.dup X25.here hx rfl (hb hby at_138) rfl rfl k) ?_
        refine own_go (fun _ k => XS.iconst X25.here hx rfl (hb hby at_139) k) ?_
        refine own_go (fun _ k => XS.bipush X25.here hx rfl (hb hby at_140) k) ?_
        obtain ⟨T26, h26, X26, e26, W26, A_b24_26, st26⟩ := own_stI X25 hx hZ e25 A_b24_25 (j := (1 : Int32)) ⟨by decide, by decide⟩ (g := (mkF m 142 #[.val (.int p0), .val (.int p1), .val (.int p2), .val (.int p3), .val (.int p4), .val (.int p5), .val (.int (p0 &&& (15 : Int32))), .val (.int ((p0 &&& (15 : Int32)) + (p1 &&& (15 : Int32)))), .val (.int z1), .val (.int (p3 &&& (63 : Int32))), .val (.int (p4 &&& (63 : Int32))), .val (.int z5), .val (.int z9), .val (.int z18), .unset, .unset, .unset, .unset, .unset, .unset] [(.int (8 : Int32)), (.int (1 : Int32)), (.ref b24), (.ref b24), (.ref b20), (.ref b19), (.ref b19)])) rfl rfl (hb hby at_142)
        have E_b19_26 := E_b19_25.wr W26
        have F_search_b19_26 := F_search_b19_25.other W26 (Or.inl ne_b19_b24)
        have F_runs_b19_26 := F_runs_b19_25.other W26 (Or.inl ne_b19_b24)
        have F_numbers_b19_26 := F_numbers_b19_25.other W26 (Or.inl ne_b19_b24)
        have F_elements_b19_26 := F_elements_b19_25.other W26 (Or.inl ne_b19_b24)
        have F_foundIn_b19_26 := F_foundIn_b19_25.other W26 (Or.inl ne_b19_b24)
        have F_next_b19_26 := F_next_b19_25.other W26 (Or.inl ne_b19_b24)
        have F_found_b19_26 := F_found_b19_25.other W26 (Or.inl ne_b19_b24)
        have F_bucketShift_b19_26 := F_bucketShift_b19_25.other W26 (Or.inl ne_b19_b24)
        have F_bucketStart_b19_26 := F_bucketStart_b19_25.other W26 (Or.inl ne_b19_b24)
        have F_firstOnly_b19_26 := F_firstOnly_b19_25.other W26 (Or.inl ne_b19_b24)
        have F_foundCount_b19_26 := F_foundCount_b19_25.other W26 (Or.inl ne_b19_b24)
        have F_forRuns_b19_26 := F_forRuns_b19_25.other W26 (Or.inl ne_b19_b24)
        have F_runsLength_b19_26 := F_runsLength_b19_25.other W26 (Or.inl ne_b19_b24)
        have A_b20_26 := A_b20_25.other W26 ne_b20_b24
        have N26 := Fr.snoc X26 N25 ge_b24
        have Z26 : n0 ≤ h26.size := Nat.le_trans Z25 (Keep.of_wr W26).1
        obtain ⟨f26, hf26⟩ : ∃ z, z = (own_set f25 (1 : Int32) (8 : Int32)) := ⟨_, rfl⟩
        rw [← hf26] at A_b24_26
        refine own_go (fun tg k => st26 tg k) ?_
        show own_Fin _ _ _ _ _ _ _ (T26.setTop (mkF m 143 #[.val (.int p0), .val (.int p1), .val (.int p2), .val (.int p3), .val (.int p4), .val (.int p5), .val (.int (p0 &&& (15 : Int32))), .val (.int ((p0 &&& (15 : Int32)) + (p1 &&& (15 : Int32)))), .val (.int z1), .val (.int (p3 &&& (63 : Int32))), .val (.int (p4 &&& (63 : Int32))), .val (.int z5), .val (.int z9), .val (.int z18), .unset, .unset, .unset, .unset, .unset, .unset] [(.ref b24), (.ref b20), (.ref b19), (.ref b19)]))
        refine own_go (fun _ k => XS.dup X26.here hx rfl (hb hby at_143) rfl rfl k) ?_
        refine own_go (fun _ k => XS.iconst X26.here hx rfl (hb hby at_144) k) ?_
        refine own_go (fun _ k => XS.bipush X26.here hx rfl (hb hby at_145) k) ?_
        obtain ⟨T27, h27, X27, e27, W27, A_b24_27, st27⟩ := own_stI X26 hx hZ e26 A_b24_26 (j := (2 : Int32)) ⟨by decide, by decide⟩ (g := (mkF m 147 #[.val (.int p0), .val (.int p1), .val (.int p2), .val (.int p3), .val (.int p4), .val (.int p5), .val (.int (p0 &&& (15 : Int32))), .val (.int ((p0 &&& (15 : Int32)) + (p1 &&& (15 : Int32)))), .val (.int z1), .val (.int (p3 &&& (63 : Int32))), .val (.int (p4 &&& (63 : Int32))), .val (.int z5), .val (.int z9), .val (.int z18), .unset, .unset, .unset, .unset, .unset, .unset] [(.int (9 : Int32)), (.int (2 : Int32)), (.ref b24), (.ref b24), (.ref b20), (.ref b19), (.ref b19)])) rfl rfl (hb hby at_147)
        have E_b19_27 := E_b19_26.wr W27
        have F_search_b19_27 := F_search_b19_26.other W27 (Or.inl ne_b19_b24)
        have F_runs_b19_27 := F_runs_b19_26.other W27 (Or.inl ne_b19_b24)
        have F_numbers_b19_27 := F_numbers_b19_26.other W27 (Or.inl ne_b19_b24)
        have F_elements_b19_27 := F_elements_b19_26.other W27 (Or.inl ne_b19_b24)
        have F_foundIn_b19_27 := F_foundIn_b19_26.other W27 (Or.inl ne_b19_b24)
        have F_next_b19_27 := F_next_b19_26.other W27 (Or.inl ne_b19_b24)
        have F_found_b19_27 := F_found_b19_26.other W27 (Or.inl ne_b19_b24)
        have F_bucketShift_b19_27 := F_bucketShift_b19_26.other W27 (Or.inl ne_b19_b24)
        have F_bucketStart_b19_27 := F_bucketStart_b19_26.other W27 (Or.inl ne_b19_b24)
        have F_firstOnly_b19_27 := F_firstOnly_b19_26.other W27 (Or.inl ne_b19_b24)
        have F_foundCount_b19_27 := F_foundCount_b19_26.other W27 (Or.inl ne_b19_b24)
        have F_forRuns_b19_27 := F_forRuns_b19_26.other W27 (Or.inl ne_b19_b24)
        have F_runsLength_b19_27 := F_runsLength_b19_26.other W27 (Or.inl ne_b19_b24)
        have A_b20_27 := A_b20_26.other W27 ne_b20_b24
        have N27 := Fr.snoc X27 N26 ge_b24
        have Z27 : n0 ≤ h27.size := Nat.le_trans Z26 (Keep.of_wr W27).1
        obtain ⟨f27, hf27⟩ : ∃ z, z = (own_set f26 (2 : Int32) (9 : Int32)) := ⟨_, rfl⟩
        rw [← hf27] at A_b24_27
        refine own_go (fun tg k => st27 tg k) ?_
        show own_Fin _ _ _ _ _ _ _ (T27.setTop (mkF m 148 #[.val (.int p0), .val (.int p1), .val (.int p2), .val (.int p3), .val (.int p4), .val (.int p5), .val (.int (p0 &&& (15 : Int32))), .val (.int ((p0 &&& (15 : Int32)) + (p1 &&& (15 : Int32)))), .val (.int z1), .val (.int (p3 &&& (63 : Int32))), .val (.int (p4 &&& (63 : Int32))), .val (.int z5), .val (.int z9), .val (.int z18), .unset, .unset, .unset, .unset, .unset, .unset] [(.ref b24), (.ref b20), (.ref b19), (.ref b19)]))
        obtain ⟨_, _, ⟨T28, L28, k28, n28⟩, -, X28, ⟨Lc28, hQ28, l28, y28, z28⟩, st28⟩ := X27.specialBack hx (y := (⟨"com/example/reachability/reachability/CandidateList", "<init>", "([I[I)V"⟩ : MethodName)) rfl hown (mvT hZ (hw _ (List.mem_of_getElem? (i := 8) rfl))) (mvT hZ (hw _ (List.mem_of_getElem? (i := 9) rfl))) (mvT hZ (hw _ (List.mem_of_getElem? (i := 10) rfl))) (by decide) (backOf (W := 1) (rm2 l Z a0 hw [] b19 b20 b24 f23 h27 n0 Z27 E_b19_27 F_search_b19_27 F_runs_b19_27 F_numbers_b19_27 F_elements_b19_27 F_foundIn_b19_27 F_next_b19_27 F_found_b19_27 F_bucketShift_b19_27 F_bucketStart_b19_27 F_foundCount_b19_27 F_firstOnly_b19_27 F_forRuns_b19_27 F_runsLength_b19_27 A_b20_27 ge_b19 (by rw [hf23]; rw [hf22]; rw [hf21]; rw [← hz1]; exact own_m3srt _ _ _)) hZ (hw _ (List.mem_of_getElem? (i := 10) rfl)) (hw _ (List.mem_of_getElem? (i := 6) rfl)) (by decide) (by decide)) (g := (mkF m 148 #[.val (.int p0), .val (.int p1), .val (.int p2), .val (.int p3), .val (.int p4), .val (.int p5), .val (.int (p0 &&& (15 : Int32))), .val (.int ((p0 &&& (15 : Int32)) + (p1 &&& (15 : Int32)))), .val (.int z1), .val (.int (p3 &&& (63 : Int32))), .val (.int (p4 &&& (63 : Int32))), .val (.int z5), .val (.int z9), .val (.int z18), .unset, .unset, .unset, .unset, .unset, .unset] [(.ref b24), (.ref b20), (.ref b19), (.ref b19)])) rfl (by rw [hml]; rfl) (Steps.refl _) (a := b19) (argsL := [(.ref b20), (.ref b24)]) (rest := [(.ref b19)]) (lenOf own_pd498 rfl) rfl (by show 2 * 0 + _ ≤ _; exact Nat.le_of_eq rfl) (hb hby at_148) (fun _ _ => ⟨rfl, e27, (by decide : 3 + 5 ≤ _), (by decide : 19 + 21 ≤ _)⟩)
        dsimp only [Pt.U, Pt.locs, Pt.cells, Pt.slots] at X28 l28 y28 z28 st28 hQ28
        replace y28 : 8 = k28 := y28.symm
        replace z28 : 40 = n28 := z28.symm
        subst y28 z28
        obtain ⟨b28rF, b28rX, b28rD, b28rB, gB28, rfl, N28q, Kq28, szq_b28rF, szq_b28rX, szq_b28rD, szq_b28rB, E_b19_28, F_search_b19_28, F_numbers_b19_28, F_elements_b19_28, F_foundIn_b19_28, F_next_b19_28, F_found_b19_28, F_bucketShift_b19_28, F_bucketStart_b19_28, F_foundCount_b19_28, F_firstOnly_b19_28, F_forRuns_b19_28, F_runsLength_b19_28, A_b28rF_28, A_b28rX_28, A_b28rD_28, A_b28rB_28, ne_b28rF_b28rX, ne_b28rF_b28rD, ne_b28rF_b28rB, ne_b28rX_b28rD, ne_b28rX_b28rB, ne_b28rD_b28rB, Pq28_23⟩ := hQ28
        have N28 : Fr n0 L28 := by rw [l28]; exact Fr.app N27 N28q
        have ne_b19_b28rF : b19 ≠ b28rF := Nat.ne_of_lt (Nat.lt_of_lt_of_le E_b19_27.lt szq_b28rF)
        have ne_b20_b28rF : b20 ≠ b28rF := Nat.ne_of_lt (Nat.lt_of_lt_of_le A_b20_27.lt szq_b28rF)
        have ne_b24_b28rF : b24 ≠ b28rF := Nat.ne_of_lt (Nat.lt_of_lt_of_le A_b24_27.lt szq_b28rF)
        have ge_b28rF : n0 ≤ b28rF := Nat.le_trans Z27 szq_b28rF
        have ne_b19_b28rX : b19 ≠ b28rX := Nat.ne_of_lt (Nat.lt_of_lt_of_le E_b19_27.lt szq_b28rX)
        have ne_b20_b28rX : b20 ≠ b28rX := Nat.ne_of_lt (Nat.lt_of_lt_of_le A_b20_27.lt szq_b28rX)
        have ne_b24_b28rX : b24 ≠ b28rX := Nat.ne_of_lt (Nat.lt_of_lt_of_le A_b24_27.lt szq_b28rX)
        have ge_b28rX : n0 ≤ b28rX := Nat.le_trans Z27 szq_b28rX
        have ne_b19_b28rD : b19 ≠ b28rD := Nat.ne_of_lt (Nat.lt_of_lt_of_le E_b19_27.lt szq_b28rD)
        have ne_b20_b28rD : b20 ≠ b28rD := Nat.ne_of_lt (Nat.lt_of_lt_of_le A_b20_27.lt szq_b28rD)
        have ne_b24_b28rD : b24 ≠ b28rD := Nat.ne_of_lt (Nat.lt_of_lt_of_le A_b24_27.lt szq_b28rD)
        have ge_b28rD : n0 ≤ b28rD := Nat.le_trans Z27 szq_b28rD
        have ne_b19_b28rB : b19 ≠ b28rB := Nat.ne_of_lt (Nat.lt_of_lt_of_le E_b19_27.lt szq_b28rB)
        have ne_b20_b28rB : b20 ≠ b28rB := Nat.ne_of_lt (Nat.lt_of_lt_of_le A_b20_27.lt szq_b28rB)
        have ne_b24_b28rB : b24 ≠ b28rB := Nat.ne_of_lt (Nat.lt_of_lt_of_le A_b24_27.lt szq_b28rB)
        have ge_b28rB : n0 ≤ b28rB := Nat.le_trans Z27 szq_b28rB
        have A_b20_28 := A_b20_27.keep Kq28 (ninS (Ne.symm ne_b19_b20) nin0)
        have A_b24_28 := A_b24_27.keep Kq28 (ninS (Ne.symm ne_b19_b24) nin0)
        have Z28 : n0 ≤ T28.heap.size := Nat.le_trans Z27 Kq28.1
        refine own_go (fun tg k => st28.trans k) ?_
        show own_Fin _ _ _ _ _ _ _ (T28.setTop (mkF m 151 #[.val (.int p0), .val (.int p1), .val (.int p2), .val (.int p3), .val (.int p4), .val (.int p5), .val (.int (p0 &&& (15 : Int32))), .val (.int ((p0 &&& (15 : Int32)) + (p1 &&& (15 : Int32)))), .val (.int z1), .val (.int (p3 &&& (63 : Int32))), .val (.int (p4 &&& (63 : Int32))), .val (.int z5), .val (.int z9), .val (.int z18), .unset, .unset, .unset, .unset, .unset, .unset] [(.ref b19)]))
        refine own_go (fun _ k => XS.astore X28.here hx rfl (hb hby at_151) rfl rfl (l' := #[.val (.int p0), .val (.int p1), .val (.int p2), .val (.int p3), .val (.int p4), .val (.int p5), .val (.int (p0 &&& (15 : Int32))), .val (.int ((p0 &&& (15 : Int32)) + (p1 &&& (15 : Int32)))), .val (.int z1), .val (.int (p3 &&& (63 : Int32))), .val (.int (p4 &&& (63 : Int32))), .val (.int z5), .val (.int z9), .val (.int z18), .val (.ref b19), .unset, .unset, .unset, .unset, .unset]) rfl k) ?_
        show own_Fin _ _ _ _ _ _ _ (T28.setTop (mkF m 153 #[.val (.int p0), .val (.int p1), .val (.int p2), .val (.int p3), .val (.int p4), .val (.int p5), .val (.int (p0 &&& (15 : Int32))), .val (.int ((p0 &&& (15 : Int32)) + (p1 &&& (15 : Int32)))), .val (.int z1), .val (.int (p3 &&& (63 : Int32))), .val (.int (p4 &&& (63 : Int32))), .val (.int z5), .val (.int z9), .val (.int z18), .val (.ref b19), .unset, .unset, .unset, .unset, .unset] []))
        refine own_go (fun _ k => XS.aload X28.here hx rfl (hb hby at_153) rfl rfl k) ?_
        obtain ⟨cq29, kq29, q29a, q29b, q29c⟩ := isOf hZ rfl E_b19_28
        obtain ⟨_, _, ⟨T29, L29, k29, n29⟩, -, X29, ⟨Lc29, hQ29, l29, y29, z29⟩, st29⟩ := X28.virtualBack hx (y := (⟨"com/example/reachability/reachability/CandidateList", "satisfied", "()Z"⟩ : MethodName)) (z := (⟨"com/example/reachability/reachability/CandidateList", "satisfied", "()Z"⟩ : MethodName)) hown (mvT hZ (hw _ (List.mem_of_getElem? (i := 42) rfl))) (mvT hZ (hw _ (List.mem_of_getElem? (i := 43) rfl))) (notFace_of_selects (args := #[]) (mvT hZ (hw _ (List.mem_of_getElem? (i := 45) rfl)))) (mvT hZ (hw _ (List.mem_of_getElem? (i := 45) rfl))) (mvT hZ (hw _ (List.mem_of_getElem? (i := 44) rfl))) (by decide) (backOf (W := 0) (rm7 l Z a0 hw [] b19 (0 : Int32) (0 : Int32) T28.heap n0 Z28 F_firstOnly_b19_28 F_foundCount_b19_28) hZ (hw _ (List.mem_of_getElem? (i := 46) rfl)) (hw _ (List.mem_of_getElem? (i := 6) rfl)) (by decide) (by decide)) q29a q29c (g := (mkF m 155 #[.val (.int p0), .val (.int p1), .val (.int p2), .val (.int p3), .val (.int p4), .val (.int p5), .val (.int (p0 &&& (15 : Int32))), .val (.int ((p0 &&& (15 : Int32)) + (p1 &&& (15 : Int32)))), .val (.int z1), .val (.int (p3 &&& (63 : Int32))), .val (.int (p4 &&& (63 : Int32))), .val (.int z5), .val (.int z9), .val (.int z18), .val (.ref b19), .unset, .unset, .unset, .unset, .unset] [(.ref b19)])) rfl (by rw [hml]; rfl) (Steps.refl _) (argsL := []) (rest := []) (lenOf own_pd429 rfl) rfl (by show 2 * 0 + _ ≤ _; exact Nat.le_of_eq rfl) (hb hby at_155) (fun _ _ => ⟨rfl, rfl, (by decide : 8 + 0 ≤ _), (by decide : 40 + 0 ≤ _)⟩)
        dsimp only [Pt.U, Pt.locs, Pt.cells, Pt.slots] at X29 l29 y29 z29 st29 hQ29
        replace y29 : 8 = k29 := y29.symm
        replace z29 : 40 = n29 := z29.symm
        subst y29 z29
        obtain ⟨rfl, N29q, e29⟩ := hQ29
        have N29 : Fr n0 L29 := by rw [l29]; exact Fr.app N28 N29q
        refine own_go (fun tg k => st29.trans k) ?_
        show own_Fin _ _ _ _ _ _ _ (T29.setTop (mkF m 158 #[.val (.int p0), .val (.int p1), .val (.int p2), .val (.int p3), .val (.int p4), .val (.int p5), .val (.int (p0 &&& (15 : Int32))), .val (.int ((p0 &&& (15 : Int32)) + (p1 &&& (15 : Int32)))), .val (.int z1), .val (.int (p3 &&& (63 : Int32))), .val (.int (p4 &&& (63 : Int32))), .val (.int z5), .val (.int z9), .val (.int z18), .val (.ref b19), .unset, .unset, .unset, .unset, .unset] [(.int (own_f7 (0 : Int32) (0 : Int32)))]))
        refine own_go (fun _ k => XS.istore X29.here hx rfl (hb hby at_158) rfl (l' := #[.val (.int p0), .val (.int p1), .val (.int p2), .val (.int p3), .val (.int p4), .val (.int p5), .val (.int (p0 &&& (15 : Int32))), .val (.int ((p0 &&& (15 : Int32)) + (p1 &&& (15 : Int32)))), .val (.int z1), .val (.int (p3 &&& (63 : Int32))), .val (.int (p4 &&& (63 : Int32))), .val (.int z5), .val (.int z9), .val (.int z18), .val (.ref b19), .val (.int (own_f7 (0 : Int32) (0 : Int32))), .unset, .unset, .unset, .unset]) rfl k) ?_
        show own_Fin _ _ _ _ _ _ _ (T29.setTop (mkF m 160 #[.val (.int p0), .val (.int p1), .val (.int p2), .val (.int p3), .val (.int p4), .val (.int p5), .val (.int (p0 &&& (15 : Int32))), .val (.int ((p0 &&& (15 : Int32)) + (p1 &&& (15 : Int32)))), .val (.int z1), .val (.int (p3 &&& (63 : Int32))), .val (.int (p4 &&& (63 : Int32))), .val (.int z5), .val (.int z9), .val (.int z18), .val (.ref b19), .val (.int (own_f7 (0 : Int32) (0 : Int32))), .unset, .unset, .unset, .unset] []))
        refine own_go (fun _ k => XS.aload X29.here hx rfl (hb hby at_160) rfl rfl k) ?_
        refine own_go (fun _ k => XS.iload X29.here hx rfl (hb hby at_162) rfl k) ?_
        obtain ⟨cq30, kq30, q30a, q30b, q30c⟩ := isOf hZ e29 E_b19_28
        obtain ⟨_, _, ⟨T30, L30, k30, n30⟩, -, X30, ⟨Lc30, hQ30, l30, y30, z30⟩, st30⟩ := X29.virtualBack hx (y := (⟨"com/example/reachability/reachability/CandidateList", "reset", "(Z)V"⟩ : MethodName)) (z := (⟨"com/example/reachability/reachability/CandidateList", "reset", "(Z)V"⟩ : MethodName)) hown (mvT hZ (hw _ (List.mem_of_getElem? (i := 49) rfl))) (mvT hZ (hw _ (List.mem_of_getElem? (i := 50) rfl))) (notFace_of_selects (args := #[]) (mvT hZ (hw _ (List.mem_of_getElem? (i := 52) rfl)))) (mvT hZ (hw _ (List.mem_of_getElem? (i := 52) rfl))) (mvT hZ (hw _ (List.mem_of_getElem? (i := 51) rfl))) (by decide) (backOf (W := 0) (rm8 l Z a0 hw [] b19 z5 b20 b24 b28rF b28rX b28rD (own_f4 f23) b28rB (1 : Int32) (0 : Int32) (0 : Int32) (0 : Int32) (0 : Int32) T28.heap n0 Z28 F_numbers_b19_28 F_elements_b19_28 F_foundIn_b19_28 F_next_b19_28 F_found_b19_28 F_bucketShift_b19_28 F_bucketStart_b19_28 E_b19_28 F_search_b19_28 F_foundCount_b19_28 F_firstOnly_b19_28 F_forRuns_b19_28 F_runsLength_b19_28 ge_b19 (by decide)) hZ (hw _ (List.mem_of_getElem? (i := 53) rfl)) (hw _ (List.mem_of_getElem? (i := 6) rfl)) (by decide) (by decide)) q30a q30c (g := (mkF m 164 #[.val (.int p0), .val (.int p1), .val (.int p2), .val (.int p3), .val (.int p4), .val (.int p5), .val (.int (p0 &&& (15 : Int32))), .val (.int ((p0 &&& (15 : Int32)) + (p1 &&& (15 : Int32)))), .val (.int z1), .val (.int (p3 &&& (63 : Int32))), .val (.int (p4 &&& (63 : Int32))), .val (.int z5), .val (.int z9), .val (.int z18), .val (.ref b19), .val (.int (own_f7 (0 : Int32) (0 : Int32))), .unset, .unset, .unset, .unset] [(.int z5), (.ref b19)])) rfl (by rw [hml]; rfl) (Steps.refl _) (argsL := [(.int z5)]) (rest := []) (lenOf own_pd499 rfl) rfl (by show 2 * 0 + _ ≤ _; exact Nat.le_of_eq rfl) (hb hby at_164) (fun _ _ => ⟨rfl, e29, (by decide : 8 + 0 ≤ _), (by decide : 40 + 0 ≤ _)⟩)
        dsimp only [Pt.U, Pt.locs, Pt.cells, Pt.slots] at X30 l30 y30 z30 st30 hQ30
        replace y30 : 8 = k30 := y30.symm
        replace z30 : 40 = n30 := z30.symm
        subst y30 z30
        obtain ⟨rfl, N30q, Kq30, F_numbers_b19_30, F_elements_b19_30, F_foundIn_b19_30, F_next_b19_30, F_found_b19_30, F_bucketShift_b19_30, F_bucketStart_b19_30, E_b19_30, F_search_b19_30, F_foundCount_b19_30, F_firstOnly_b19_30, F_forRuns_b19_30, F_runsLength_b19_30⟩ := hQ30
        have N30 : Fr n0 L30 := by rw [l30]; exact Fr.app N29 N30q
        have A_b20_30 := A_b20_28.keep Kq30 (ninS (Ne.symm ne_b19_b20) nin0)
        have A_b24_30 := A_b24_28.keep Kq30 (ninS (Ne.symm ne_b19_b24) nin0)
        have A_b28rF_30 := A_b28rF_28.keep Kq30 (ninS (Ne.symm ne_b19_b28rF) nin0)
        have A_b28rX_30 := A_b28rX_28.keep Kq30 (ninS (Ne.symm ne_b19_b28rX) nin0)
        have A_b28rD_30 := A_b28rD_28.keep Kq30 (ninS (Ne.symm ne_b19_b28rD) nin0)
        have A_b28rB_30 := A_b28rB_28.keep Kq30 (ninS (Ne.symm ne_b19_b28rB) nin0)
        have Z30 : n0 ≤ T30.heap.size := Nat.le_trans Z28 Kq30.1
        refine own_go (fun tg k => st30.trans k) ?_
        show own_Fin _ _ _ _ _ _ _ (T30.setTop (mkF m 167 #[.val (.int p0), .val (.int p1), .val (.int p2), .val (.int p3), .val (.int p4), .val (.int p5), .val (.int (p0 &&& (15 : Int32))), .val (.int ((p0 &&& (15 : Int32)) + (p1 &&& (15 : Int32)))), .val (.int z1), .val (.int (p3 &&& (63 : Int32))), .val (.int (p4 &&& (63 : Int32))), .val (.int z5), .val (.int z9), .val (.int z18), .val (.ref b19), .val (.int (own_f7 (0 : Int32) (0 : Int32))), .unset, .unset, .unset, .unset] []))
        refine own_go (fun _ k => XS.aload X30.here hx rfl (hb hby at_167) rfl rfl k) ?_
        obtain ⟨cq31, kq31, q31a, q31b, q31c⟩ := isOf hZ rfl E_b19_30
        obtain ⟨_, _, ⟨T31, L31, k31, n31⟩, -, X31, ⟨Lc31, hQ31, l31, y31, z31⟩, st31⟩ := X30.virtualBack hx (y := (⟨"com/example/reachability/reachability/CandidateList", "satisfied", "()Z"⟩ : MethodName)) (z := (⟨"com/example/reachability/reachability/CandidateList", "satisfied", "()Z"⟩ : MethodName)) hown (mvT hZ (hw _ (List.mem_of_getElem? (i := 42) rfl))) (mvT hZ (hw _ (List.mem_of_getElem? (i := 43) rfl))) (notFace_of_selects (args := #[]) (mvT hZ (hw _ (List.mem_of_getElem? (i := 45) rfl)))) (mvT hZ (hw _ (List.mem_of_getElem? (i := 45) rfl))) (mvT hZ (hw _ (List.mem_of_getElem? (i := 44) rfl))) (by decide) (backOf (W := 0) (rm7 l Z a0 hw [] b19 (z5 &&& 1) (0 : Int32) T30.heap n0 Z30 F_firstOnly_b19_30 F_foundCount_b19_30) hZ (hw _ (List.mem_of_getElem? (i := 46) rfl)) (hw _ (List.mem_of_getElem? (i := 6) rfl)) (by decide) (by decide)) q31a q31c (g := (mkF m 169 #[.val (.int p0), .val (.int p1), .val (.int p2), .val (.int p3), .val (.int p4), .val (.int p5), .val (.int (p0 &&& (15 : Int32))), .val (.int ((p0 &&& (15 : Int32)) + (p1 &&& (15 : Int32)))), .val (.int z1), .val (.int (p3 &&& (63 : Int32))), .val (.int (p4 &&& (63 : Int32))), .val (.int z5), .val (.int z9), .val (.int z18), .val (.ref b19), .val (.int (own_f7 (0 : Int32) (0 : Int32))), .unset, .unset, .unset, .unset] [(.ref b19)])) rfl (by rw [hml]; rfl) (Steps.refl _) (argsL := []) (rest := []) (lenOf own_pd429 rfl) rfl (by show 2 * 0 + _ ≤ _; exact Nat.le_of_eq rfl) (hb hby at_169) (fun _ _ => ⟨rfl, rfl, (by decide : 8 + 0 ≤ _), (by decide : 40 + 0 ≤ _)⟩)
        dsimp only [Pt.U, Pt.locs, Pt.cells, Pt.slots] at X31 l31 y31 z31 st31 hQ31
        replace y31 : 8 = k31 := y31.symm
        replace z31 : 40 = n31 := z31.symm
        subst y31 z31
        obtain ⟨rfl, N31q, e31⟩ := hQ31
        have N31 : Fr n0 L31 := by rw [l31]; exact Fr.app N30 N31q
        refine own_go (fun tg k => st31.trans k) ?_
        show own_Fin _ _ _ _ _ _ _ (T31.setTop (mkF m 172 #[.val (.int p0), .val (.int p1), .val (.int p2), .val (.int p3), .val (.int p4), .val (.int p5), .val (.int (p0 &&& (15 : Int32))), .val (.int ((p0 &&& (15 : Int32)) + (p1 &&& (15 : Int32)))), .val (.int z1), .val (.int (p3 &&& (63 : Int32))), .val (.int (p4 &&& (63 : Int32))), .val (.int z5), .val (.int z9), .val (.int z18), .val (.ref b19), .val (.int (own_f7 (0 : Int32) (0 : Int32))), .unset, .unset, .unset, .unset] [(.int (own_f7 (z5 &&& 1) (0 : Int32)))]))
        refine own_go (fun _ k => XS.istore X31.here hx rfl (hb hby at_172) rfl (l' := #[.val (.int p0), .val (.int p1), .val (.int p2), .val (.int p3), .val (.int p4), .val (.int p5), .val (.int (p0 &&& (15 : Int32))), .val (.int ((p0 &&& (15 : Int32)) + (p1 &&& (15 : Int32)))), .val (.int z1), .val (.int (p3 &&& (63 : Int32))), .val (.int (p4 &&& (63 : Int32))), .val (.int z5), .val (.int z9), .val (.int z18), .val (.ref b19), .val (.int (own_f7 (0 : Int32) (0 : Int32))), .val (.int (own_f7 (z5 &&& 1) (0 : Int32))), .unset, .unset, .unset]) rfl k) ?_
        show own_Fin _ _ _ _ _ _ _ (T31.setTop (mkF m 174 #[.val (.int p0), .val (.int p1), .val (.int p2), .val (.int p3), .val (.int p4), .val (.int p5), .val (.int (p0 &&& (15 : Int32))), .val (.int ((p0 &&& (15 : Int32)) + (p1 &&& (15 : Int32)))), .val (.int z1), .val (.int (p3 &&& (63 : Int32))), .val (.int (p4 &&& (63 : Int32))), .val (.int z5), .val (.int z9), .val (.int z18), .val (.ref b19), .val (.int (own_f7 (0 : Int32) (0 : Int32))), .val (.int (own_f7 (z5 &&& 1) (0 : Int32))), .unset, .unset, .unset] []))
        refine own_go (fun _ k => XS.aload X31.here hx rfl (hb hby at_174) rfl rfl k) ?_
        refine own_go (fun _ k => XS.iload X31.here hx rfl (hb hby at_176) rfl k) ?_
        refine own_go (fun _ k => XS.iload X31.here hx rfl (hb hby at_178) rfl k) ?_
        obtain ⟨cq32, kq32, q32a, q32b, q32c⟩ := isOf hZ e31 E_b19_30
        obtain ⟨_, _, ⟨T32, L32, k32, n32⟩, -, X32, ⟨Lc32, hQ32, l32, y32, z32⟩, st32⟩ := X31.virtualBack hx (y := (⟨"com/example/reachability/reachability/CandidateList", "find", "(II)I"⟩ : MethodName)) (z := (⟨"com/example/reachability/reachability/CandidateList", "find", "(II)I"⟩ : MethodName)) hown (mvT hZ (hw _ (List.mem_of_getElem? (i := 61) rfl))) (mvT hZ (hw _ (List.mem_of_getElem? (i := 62) rfl))) (notFace_of_selects (args := #[]) (mvT hZ (hw _ (List.mem_of_getElem? (i := 64) rfl)))) (mvT hZ (hw _ (List.mem_of_getElem? (i := 64) rfl))) (mvT hZ (hw _ (List.mem_of_getElem? (i := 63) rfl))) (by decide) (backOf (W := 0) (rm9f l Z a0 hw [] b19 (p3 &&& (63 : Int32)) (p4 &&& (63 : Int32)) b20 b24 b28rF b28rX b28rD (own_f4 f23) b28rB ((1 : Int32) + (1 : Int32)) (z5 &&& 1) (0 : Int32) (0 : Int32) f23 (fun _ => (0 : Int32)) (fun _ => (0 : Int32)) (fun _ => (0 : Int32)) ((own_iushr (f23 2) (own_f4 f23)) + (2 : Int32)) gB28 T30.heap n0 Z30 F_numbers_b19_30 F_elements_b19_30 F_foundIn_b19_30 F_next_b19_30 F_found_b19_30 F_bucketShift_b19_30 F_bucketStart_b19_30 E_b19_30 F_search_b19_30 F_foundCount_b19_30 F_firstOnly_b19_30 F_forRuns_b19_30 F_runsLength_b19_30 A_b20_30 A_b28rF_30 A_b28rX_30 A_b28rD_30 A_b28rB_30 ge_b19 ge_b28rF ge_b28rX ge_b28rD ne_b20_b28rF ne_b20_b28rX ne_b20_b28rD ne_b20_b28rB ne_b28rF_b28rX ne_b28rF_b28rD ne_b28rF_b28rB ne_b28rX_b28rD ne_b28rX_b28rB ne_b28rD_b28rB ⟨(own_f10v (by rw [hf23]; rw [hf22]; rw [hf21]; rw [← hz1]; exact own_m3srt _ _ _) Pq28_23 _ (own_m63 _)).1, fun _ _ => (by decide : ¬ (0 : Int32) = (1 : Int32) + (1 : Int32))⟩) hZ (hw _ (List.mem_of_getElem? (i := 65) rfl)) (hw _ (List.mem_of_getElem? (i := 6) rfl)) (by decide) (by decide)) q32a q32c (g := (mkF m 180 #[.val (.int p0), .val (.int p1), .val (.int p2), .val (.int p3), .val (.int p4), .val (.int p5), .val (.int (p0 &&& (15 : Int32))), .val (.int ((p0 &&& (15 : Int32)) + (p1 &&& (15 : Int32)))), .val (.int z1), .val (.int (p3 &&& (63 : Int32))), .val (.int (p4 &&& (63 : Int32))), .val (.int z5), .val (.int z9), .val (.int z18), .val (.ref b19), .val (.int (own_f7 (0 : Int32) (0 : Int32))), .val (.int (own_f7 (z5 &&& 1) (0 : Int32))), .unset, .unset, .unset] [(.int (p4 &&& (63 : Int32))), (.int (p3 &&& (63 : Int32))), (.ref b19)])) rfl (by rw [hml]; rfl) (Steps.refl _) (argsL := [(.int (p3 &&& (63 : Int32))), (.int (p4 &&& (63 : Int32)))]) (rest := []) (lenOf own_pd8 rfl) rfl (by show 2 * 0 + _ ≤ _; exact Nat.le_of_eq rfl) (hb hby at_180) (fun _ _ => ⟨rfl, e31, (by decide : 8 + 0 ≤ _), (by decide : 40 + 0 ≤ _)⟩)
        dsimp only [Pt.U, Pt.locs, Pt.cells, Pt.slots] at X32 l32 y32 z32 st32 hQ32
        replace y32 : 8 = k32 := y32.symm
        replace z32 : 40 = n32 := z32.symm
        subst y32 z32
        obtain ⟨rfl, N32q, Kq32, F_numbers_b19_32, F_elements_b19_32, F_foundIn_b19_32, F_next_b19_32, F_found_b19_32, F_bucketShift_b19_32, F_bucketStart_b19_32, E_b19_32, F_search_b19_32, F_foundCount_b19_32, F_firstOnly_b19_32, F_forRuns_b19_32, F_runsLength_b19_32, A_b28rF_32, A_b28rX_32, A_b28rD_32⟩ := hQ32
        have N32 : Fr n0 L32 := by rw [l32]; exact Fr.app N31 N32q
        have A_b20_32 := A_b20_30.keep Kq32 (ninS (Ne.symm ne_b19_b20) (ninS ne_b20_b28rF (ninS ne_b20_b28rX (ninS ne_b20_b28rD nin0))))
        have A_b24_32 := A_b24_30.keep Kq32 (ninS (Ne.symm ne_b19_b24) (ninS ne_b24_b28rF (ninS ne_b24_b28rX (ninS ne_b24_b28rD nin0))))
        have A_b28rB_32 := A_b28rB_30.keep Kq32 (ninS (Ne.symm ne_b19_b28rB) (ninS (Ne.symm ne_b28rF_b28rB) (ninS (Ne.symm ne_b28rX_b28rB) (ninS (Ne.symm ne_b28rD_b28rB) nin0))))
        have Z32 : n0 ≤ T32.heap.size := Nat.le_trans Z30 Kq32.1
        refine own_go (fun tg k => st32.trans k) ?_
        show own_Fin _ _ _ _ _ _ _ (T32.setTop (mkF m 183 #[.val (.int p0), .val (.int p1), .val (.int p2), .val (.int p3), .val (.int p4), .val (.int p5), .val (.int (p0 &&& (15 : Int32))), .val (.int ((p0 &&& (15 : Int32)) + (p1 &&& (15 : Int32)))), .val (.int z1), .val (.int (p3 &&& (63 : Int32))), .val (.int (p4 &&& (63 : Int32))), .val (.int z5), .val (.int z9), .val (.int z18), .val (.ref b19), .val (.int (own_f7 (0 : Int32) (0 : Int32))), .val (.int (own_f7 (z5 &&& 1) (0 : Int32))), .unset, .unset, .unset] [(.int (own_f9f (p3 &&& (63 : Int32)) (p4 &&& (63 : Int32)) (own_f4 f23) ((1 : Int32) + (1 : Int32)) (z5 &&& 1) (0 : Int32) (0 : Int32) f23 (fun _ => (0 : Int32)) (fun _ => (0 : Int32)) (fun _ => (0 : Int32)) ((own_iushr (f23 2) (own_f4 f23)) + (2 : Int32)) gB28))]))
        refine own_go (fun _ k => XS.pop X32.here hx rfl (hb hby at_183) rfl rfl k) ?_
        show own_Fin _ _ _ _ _ _ _ (T32.setTop (mkF m 184 #[.val (.int p0), .val (.int p1), .val (.int p2), .val (.int p3), .val (.int p4), .val (.int p5), .val (.int (p0 &&& (15 : Int32))), .val (.int ((p0 &&& (15 : Int32)) + (p1 &&& (15 : Int32)))), .val (.int z1), .val (.int (p3 &&& (63 : Int32))), .val (.int (p4 &&& (63 : Int32))), .val (.int z5), .val (.int z9), .val (.int z18), .val (.ref b19), .val (.int (own_f7 (0 : Int32) (0 : Int32))), .val (.int (own_f7 (z5 &&& 1) (0 : Int32))), .unset, .unset, .unset] []))
        refine own_go (fun _ k => XS.aload X32.here hx rfl (hb hby at_184) rfl rfl k) ?_
        obtain ⟨cq33, kq33, q33a, q33b, q33c⟩ := isOf hZ rfl E_b19_32
        obtain ⟨_, _, ⟨T33, L33, k33, n33⟩, -, X33, ⟨Lc33, hQ33, l33, y33, z33⟩, st33⟩ := X32.virtualBack hx (y := (⟨"com/example/reachability/reachability/CandidateList", "satisfied", "()Z"⟩ : MethodName)) (z := (⟨"com/example/reachability/reachability/CandidateList", "satisfied", "()Z"⟩ : MethodName)) hown (mvT hZ (hw _ (List.mem_of_getElem? (i := 42) rfl))) (mvT hZ (hw _ (List.mem_of_getElem? (i := 43) rfl))) (notFace_of_selects (args := #[]) (mvT hZ (hw _ (List.mem_of_getElem? (i := 45) rfl)))) (mvT hZ (hw _ (List.mem_of_getElem? (i := 45) rfl))) (mvT hZ (hw _ (List.mem_of_getElem? (i := 44) rfl))) (by decide) (backOf (W := 0) (rm7 l Z a0 hw [] b19 (z5 &&& 1) (own_f9f_foundCount (p3 &&& (63 : Int32)) (p4 &&& (63 : Int32)) (own_f4 f23) ((1 : Int32) + (1 : Int32)) (z5 &&& 1) (0 : Int32) (0 : Int32) f23 (fun _ => (0 : Int32)) (fun _ => (0 : Int32)) (fun _ => (0 : Int32)) ((own_iushr (f23 2) (own_f4 f23)) + (2 : Int32)) gB28) T32.heap n0 Z32 F_firstOnly_b19_32 F_foundCount_b19_32) hZ (hw _ (List.mem_of_getElem? (i := 46) rfl)) (hw _ (List.mem_of_getElem? (i := 6) rfl)) (by decide) (by decide)) q33a q33c (g := (mkF m 186 #[.val (.int p0), .val (.int p1), .val (.int p2), .val (.int p3), .val (.int p4), .val (.int p5), .val (.int (p0 &&& (15 : Int32))), .val (.int ((p0 &&& (15 : Int32)) + (p1 &&& (15 : Int32)))), .val (.int z1), .val (.int (p3 &&& (63 : Int32))), .val (.int (p4 &&& (63 : Int32))), .val (.int z5), .val (.int z9), .val (.int z18), .val (.ref b19), .val (.int (own_f7 (0 : Int32) (0 : Int32))), .val (.int (own_f7 (z5 &&& 1) (0 : Int32))), .unset, .unset, .unset] [(.ref b19)])) rfl (by rw [hml]; rfl) (Steps.refl _) (argsL := []) (rest := []) (lenOf own_pd429 rfl) rfl (by show 2 * 0 + _ ≤ _; exact Nat.le_of_eq rfl) (hb hby at_186) (fun _ _ => ⟨rfl, rfl, (by decide : 8 + 0 ≤ _), (by decide : 40 + 0 ≤ _)⟩)
        dsimp only [Pt.U, Pt.locs, Pt.cells, Pt.slots] at X33 l33 y33 z33 st33 hQ33
        replace y33 : 8 = k33 := y33.symm
        replace z33 : 40 = n33 := z33.symm
        subst y33 z33
        obtain ⟨rfl, N33q, e33⟩ := hQ33
        have N33 : Fr n0 L33 := by rw [l33]; exact Fr.app N32 N33q
        refine own_go (fun tg k => st33.trans k) ?_
        show own_Fin _ _ _ _ _ _ _ (T33.setTop (mkF m 189 #[.val (.int p0), .val (.int p1), .val (.int p2), .val (.int p3), .val (.int p4), .val (.int p5), .val (.int (p0 &&& (15 : Int32))), .val (.int ((p0 &&& (15 : Int32)) + (p1 &&& (15 : Int32)))), .val (.int z1), .val (.int (p3 &&& (63 : Int32))), .val (.int (p4 &&& (63 : Int32))), .val (.int z5), .val (.int z9), .val (.int z18), .val (.ref b19), .val (.int (own_f7 (0 : Int32) (0 : Int32))), .val (.int (own_f7 (z5 &&& 1) (0 : Int32))), .unset, .unset, .unset] [(.int (own_f7 (z5 &&& 1) (own_f9f_foundCount (p3 &&& (63 : Int32)) (p4 &&& (63 : Int32)) (own_f4 f23) ((1 : Int32) + (1 : Int32)) (z5 &&& 1) (0 : Int32) (0 : Int32) f23 (fun _ => (0 : Int32)) (fun _ => (0 : Int32)) (fun _ => (0 : Int32)) ((own_iushr (f23 2) (own_f4 f23)) + (2 : Int32)) gB28)))]))
        refine own_go (fun _ k => XS.istore X33.here hx rfl (hb hby at_189) rfl (l' := #[.val (.int p0), .val (.int p1), .val (.int p2), .val (.int p3), .val (.int p4), .val (.int p5), .val (.int (p0 &&& (15 : Int32))), .val (.int ((p0 &&& (15 : Int32)) + (p1 &&& (15 : Int32)))), .val (.int z1), .val (.int (p3 &&& (63 : Int32))), .val (.int (p4 &&& (63 : Int32))), .val (.int z5), .val (.int z9), .val (.int z18), .val (.ref b19), .val (.int (own_f7 (0 : Int32) (0 : Int32))), .val (.int (own_f7 (z5 &&& 1) (0 : Int32))), .val (.int (own_f7 (z5 &&& 1) (own_f9f_foundCount (p3 &&& (63 : Int32)) (p4 &&& (63 : Int32)) (own_f4 f23) ((1 : Int32) + (1 : Int32)) (z5 &&& 1) (0 : Int32) (0 : Int32) f23 (fun _ => (0 : Int32)) (fun _ => (0 : Int32)) (fun _ => (0 : Int32)) ((own_iushr (f23 2) (own_f4 f23)) + (2 : Int32)) gB28))), .unset, .unset]) rfl k) ?_
        show own_Fin _ _ _ _ _ _ _ (T33.setTop (mkF m 191 #[.val (.int p0), .val (.int p1), .val (.int p2), .val (.int p3), .val (.int p4), .val (.int p5), .val (.int (p0 &&& (15 : Int32))), .val (.int ((p0 &&& (15 : Int32)) + (p1 &&& (15 : Int32)))), .val (.int z1), .val (.int (p3 &&& (63 : Int32))), .val (.int (p4 &&& (63 : Int32))), .val (.int z5), .val (.int z9), .val (.int z18), .val (.ref b19), .val (.int (own_f7 (0 : Int32) (0 : Int32))), .val (.int (own_f7 (z5 &&& 1) (0 : Int32))), .val (.int (own_f7 (z5 &&& 1) (own_f9f_foundCount (p3 &&& (63 : Int32)) (p4 &&& (63 : Int32)) (own_f4 f23) ((1 : Int32) + (1 : Int32)) (z5 &&& 1) (0 : Int32) (0 : Int32) f23 (fun _ => (0 : Int32)) (fun _ => (0 : Int32)) (fun _ => (0 : Int32)) ((own_iushr (f23 2) (own_f4 f23)) + (2 : Int32)) gB28))), .unset, .unset] []))
        generalize hz34 : (own_f7 (z5 &&& 1) (own_f9f_foundCount (p3 &&& (63 : Int32)) (p4 &&& (63 : Int32)) (own_f4 f23) ((1 : Int32) + (1 : Int32)) (z5 &&& 1) (0 : Int32) (0 : Int32) f23 (fun _ => (0 : Int32)) (fun _ => (0 : Int32)) (fun _ => (0 : Int32)) ((own_iushr (f23 2) (own_f4 f23)) + (2 : Int32)) gB28)) = z34
        show own_Fin _ _ _ _ _ _ _ (T33.setTop (mkF m 191 #[.val (.int p0), .val (.int p1), .val (.int p2), .val (.int p3), .val (.int p4), .val (.int p5), .val (.int (p0 &&& (15 : Int32))), .val (.int ((p0 &&& (15 : Int32)) + (p1 &&& (15 : Int32)))), .val (.int z1), .val (.int (p3 &&& (63 : Int32))), .val (.int (p4 &&& (63 : Int32))), .val (.int z5), .val (.int z9), .val (.int z18), .val (.ref b19), .val (.int (own_f7 (0 : Int32) (0 : Int32))), .val (.int (own_f7 (z5 &&& 1) (0 : Int32))), .val (.int z34), .unset, .unset] []))
        refine own_go (fun _ k => XS.aload X33.here hx rfl (hb hby at_191) rfl rfl k) ?_
        refine own_go (fun _ k => XS.iload X33.here hx rfl (hb hby at_193) rfl k) ?_
        obtain ⟨cq35, kq35, q35a, q35b, q35c⟩ := isOf hZ e33 E_b19_32
        obtain ⟨_, _, ⟨T35, L35, k35, n35⟩, -, X35, ⟨Lc35, hQ35, l35, y35, z35⟩, st35⟩ := X33.virtualBack hx (y := (⟨"com/example/reachability/reachability/CandidateList", "reset", "(Z)V"⟩ : MethodName)) (z := (⟨"com/example/reachability/reachability/CandidateList", "reset", "(Z)V"⟩ : MethodName)) hown (mvT hZ (hw _ (List.mem_of_getElem? (i := 49) rfl))) (mvT hZ (hw _ (List.mem_of_getElem? (i := 50) rfl))) (notFace_of_selects (args := #[]) (mvT hZ (hw _ (List.mem_of_getElem? (i := 52) rfl)))) (mvT hZ (hw _ (List.mem_of_getElem? (i := 52) rfl))) (mvT hZ (hw _ (List.mem_of_getElem? (i := 51) rfl))) (by decide) (backOf (W := 0) (rm8 l Z a0 hw [] b19 z9 b20 b24 b28rF b28rX b28rD (own_f4 f23) b28rB ((1 : Int32) + (1 : Int32)) (own_f9f_foundCount (p3 &&& (63 : Int32)) (p4 &&& (63 : Int32)) (own_f4 f23) ((1 : Int32) + (1 : Int32)) (z5 &&& 1) (0 : Int32) (0 : Int32) f23 (fun _ => (0 : Int32)) (fun _ => (0 : Int32)) (fun _ => (0 : Int32)) ((own_iushr (f23 2) (own_f4 f23)) + (2 : Int32)) gB28) (z5 &&& 1) (0 : Int32) (0 : Int32) T32.heap n0 Z32 F_numbers_b19_32 F_elements_b19_32 F_foundIn_b19_32 F_next_b19_32 F_found_b19_32 F_bucketShift_b19_32 F_bucketStart_b19_32 E_b19_32 F_search_b19_32 F_foundCount_b19_32 F_firstOnly_b19_32 F_forRuns_b19_32 F_runsLength_b19_32 ge_b19 (by decide)) hZ (hw _ (List.mem_of_getElem? (i := 53) rfl)) (hw _ (List.mem_of_getElem? (i := 6) rfl)) (by decide) (by decide)) q35a q35c (g := (mkF m 195 #[.val (.int p0), .val (.int p1), .val (.int p2), .val (.int p3), .val (.int p4), .val (.int p5), .val (.int (p0 &&& (15 : Int32))), .val (.int ((p0 &&& (15 : Int32)) + (p1 &&& (15 : Int32)))), .val (.int z1), .val (.int (p3 &&& (63 : Int32))), .val (.int (p4 &&& (63 : Int32))), .val (.int z5), .val (.int z9), .val (.int z18), .val (.ref b19), .val (.int (own_f7 (0 : Int32) (0 : Int32))), .val (.int (own_f7 (z5 &&& 1) (0 : Int32))), .val (.int z34), .unset, .unset] [(.int z9), (.ref b19)])) rfl (by rw [hml]; rfl) (Steps.refl _) (argsL := [(.int z9)]) (rest := []) (lenOf own_pd499 rfl) rfl (by show 2 * 0 + _ ≤ _; exact Nat.le_of_eq rfl) (hb hby at_195) (fun _ _ => ⟨rfl, e33, (by decide : 8 + 0 ≤ _), (by decide : 40 + 0 ≤ _)⟩)
        dsimp only [Pt.U, Pt.locs, Pt.cells, Pt.slots] at X35 l35 y35 z35 st35 hQ35
        replace y35 : 8 = k35 := y35.symm
        replace z35 : 40 = n35 := z35.symm
        subst y35 z35
        obtain ⟨rfl, N35q, Kq35, F_numbers_b19_35, F_elements_b19_35, F_foundIn_b19_35, F_next_b19_35, F_found_b19_35, F_bucketShift_b19_35, F_bucketStart_b19_35, E_b19_35, F_search_b19_35, F_foundCount_b19_35, F_firstOnly_b19_35, F_forRuns_b19_35, F_runsLength_b19_35⟩ := hQ35
        have N35 : Fr n0 L35 := by rw [l35]; exact Fr.app N33 N35q
        have A_b20_35 := A_b20_32.keep Kq35 (ninS (Ne.symm ne_b19_b20) nin0)
        have A_b24_35 := A_b24_32.keep Kq35 (ninS (Ne.symm ne_b19_b24) nin0)
        have A_b28rF_35 := A_b28rF_32.keep Kq35 (ninS (Ne.symm ne_b19_b28rF) nin0)
        have A_b28rX_35 := A_b28rX_32.keep Kq35 (ninS (Ne.symm ne_b19_b28rX) nin0)
        have A_b28rD_35 := A_b28rD_32.keep Kq35 (ninS (Ne.symm ne_b19_b28rD) nin0)
        have A_b28rB_35 := A_b28rB_32.keep Kq35 (ninS (Ne.symm ne_b19_b28rB) nin0)
        have Z35 : n0 ≤ T35.heap.size := Nat.le_trans Z32 Kq35.1
        refine own_go (fun tg k => st35.trans k) ?_
        show own_Fin _ _ _ _ _ _ _ (T35.setTop (mkF m 198 #[.val (.int p0), .val (.int p1), .val (.int p2), .val (.int p3), .val (.int p4), .val (.int p5), .val (.int (p0 &&& (15 : Int32))), .val (.int ((p0 &&& (15 : Int32)) + (p1 &&& (15 : Int32)))), .val (.int z1), .val (.int (p3 &&& (63 : Int32))), .val (.int (p4 &&& (63 : Int32))), .val (.int z5), .val (.int z9), .val (.int z18), .val (.ref b19), .val (.int (own_f7 (0 : Int32) (0 : Int32))), .val (.int (own_f7 (z5 &&& 1) (0 : Int32))), .val (.int z34), .unset, .unset] []))
        refine own_go (fun _ k => XS.aload X35.here hx rfl (hb hby at_198) rfl rfl k) ?_
        obtain ⟨cq36, kq36, q36a, q36b, q36c⟩ := isOf hZ rfl E_b19_35
        obtain ⟨_, _, ⟨T36, L36, k36, n36⟩, -, X36, ⟨Lc36, hQ36, l36, y36, z36⟩, st36⟩ := X35.virtualBack hx (y := (⟨"com/example/reachability/reachability/CandidateList", "satisfied", "()Z"⟩ : MethodName)) (z := (⟨"com/example/reachability/reachability/CandidateList", "satisfied", "()Z"⟩ : MethodName)) hown (mvT hZ (hw _ (List.mem_of_getElem? (i := 42) rfl))) (mvT hZ (hw _ (List.mem_of_getElem? (i := 43) rfl))) (notFace_of_selects (args := #[]) (mvT hZ (hw _ (List.mem_of_getElem? (i := 45) rfl)))) (mvT hZ (hw _ (List.mem_of_getElem? (i := 45) rfl))) (mvT hZ (hw _ (List.mem_of_getElem? (i := 44) rfl))) (by decide) (backOf (W := 0) (rm7 l Z a0 hw [] b19 (z9 &&& 1) (0 : Int32) T35.heap n0 Z35 F_firstOnly_b19_35 F_foundCount_b19_35) hZ (hw _ (List.mem_of_getElem? (i := 46) rfl)) (hw _ (List.mem_of_getElem? (i := 6) rfl)) (by decide) (by decide)) q36a q36c (g := (mkF m 200 #[.val (.int p0), .val (.int p1), .val (.int p2), .val (.int p3), .val (.int p4), .val (.int p5), .val (.int (p0 &&& (15 : Int32))), .val (.int ((p0 &&& (15 : Int32)) + (p1 &&& (15 : Int32)))), .val (.int z1), .val (.int (p3 &&& (63 : Int32))), .val (.int (p4 &&& (63 : Int32))), .val (.int z5), .val (.int z9), .val (.int z18), .val (.ref b19), .val (.int (own_f7 (0 : Int32) (0 : Int32))), .val (.int (own_f7 (z5 &&& 1) (0 : Int32))), .val (.int z34), .unset, .unset] [(.ref b19)])) rfl (by rw [hml]; rfl) (Steps.refl _) (argsL := []) (rest := []) (lenOf own_pd429 rfl) rfl (by show 2 * 0 + _ ≤ _; exact Nat.le_of_eq rfl) (hb hby at_200) (fun _ _ => ⟨rfl, rfl, (by decide : 8 + 0 ≤ _), (by decide : 40 + 0 ≤ _)⟩)
        dsimp only [Pt.U, Pt.locs, Pt.cells, Pt.slots] at X36 l36 y36 z36 st36 hQ36
        replace y36 : 8 = k36 := y36.symm
        replace z36 : 40 = n36 := z36.symm
        subst y36 z36
        obtain ⟨rfl, N36q, e36⟩ := hQ36
        have N36 : Fr n0 L36 := by rw [l36]; exact Fr.app N35 N36q
        refine own_go (fun tg k => st36.trans k) ?_
        show own_Fin _ _ _ _ _ _ _ (T36.setTop (mkF m 203 #[.val (.int p0), .val (.int p1), .val (.int p2), .val (.int p3), .val (.int p4), .val (.int p5), .val (.int (p0 &&& (15 : Int32))), .val (.int ((p0 &&& (15 : Int32)) + (p1 &&& (15 : Int32)))), .val (.int z1), .val (.int (p3 &&& (63 : Int32))), .val (.int (p4 &&& (63 : Int32))), .val (.int z5), .val (.int z9), .val (.int z18), .val (.ref b19), .val (.int (own_f7 (0 : Int32) (0 : Int32))), .val (.int (own_f7 (z5 &&& 1) (0 : Int32))), .val (.int z34), .unset, .unset] [(.int (own_f7 (z9 &&& 1) (0 : Int32)))]))
        refine own_go (fun _ k => XS.istore X36.here hx rfl (hb hby at_203) rfl (l' := #[.val (.int p0), .val (.int p1), .val (.int p2), .val (.int p3), .val (.int p4), .val (.int p5), .val (.int (p0 &&& (15 : Int32))), .val (.int ((p0 &&& (15 : Int32)) + (p1 &&& (15 : Int32)))), .val (.int z1), .val (.int (p3 &&& (63 : Int32))), .val (.int (p4 &&& (63 : Int32))), .val (.int z5), .val (.int z9), .val (.int z18), .val (.ref b19), .val (.int (own_f7 (0 : Int32) (0 : Int32))), .val (.int (own_f7 (z5 &&& 1) (0 : Int32))), .val (.int z34), .val (.int (own_f7 (z9 &&& 1) (0 : Int32))), .unset]) rfl k) ?_
        show own_Fin _ _ _ _ _ _ _ (T36.setTop (mkF m 205 #[.val (.int p0), .val (.int p1), .val (.int p2), .val (.int p3), .val (.int p4), .val (.int p5), .val (.int (p0 &&& (15 : Int32))), .val (.int ((p0 &&& (15 : Int32)) + (p1 &&& (15 : Int32)))), .val (.int z1), .val (.int (p3 &&& (63 : Int32))), .val (.int (p4 &&& (63 : Int32))), .val (.int z5), .val (.int z9), .val (.int z18), .val (.ref b19), .val (.int (own_f7 (0 : Int32) (0 : Int32))), .val (.int (own_f7 (z5 &&& 1) (0 : Int32))), .val (.int z34), .val (.int (own_f7 (z9 &&& 1) (0 : Int32))), .unset] []))
        refine own_go (fun _ k => XS.aload X36.here hx rfl (hb hby at_205) rfl rfl k) ?_
        refine own_go (fun _ k => XS.iload X36.here hx rfl (hb hby at_207) rfl k) ?_
        refine own_go (fun _ k => XS.iload X36.here hx rfl (hb hby at_209) rfl k) ?_
        obtain ⟨cq37, kq37, q37a, q37b, q37c⟩ := isOf hZ e36 E_b19_35
        obtain ⟨_, _, ⟨T37, L37, k37, n37⟩, -, X37, ⟨Lc37, hQ37, l37, y37, z37⟩, st37⟩ := X36.virtualBack hx (y := (⟨"com/example/reachability/reachability/CandidateList", "find", "(II)I"⟩ : MethodName)) (z := (⟨"com/example/reachability/reachability/CandidateList", "find", "(II)I"⟩ : MethodName)) hown (mvT hZ (hw _ (List.mem_of_getElem? (i := 61) rfl))) (mvT hZ (hw _ (List.mem_of_getElem? (i := 62) rfl))) (notFace_of_selects (args := #[]) (mvT hZ (hw _ (List.mem_of_getElem? (i := 64) rfl)))) (mvT hZ (hw _ (List.mem_of_getElem? (i := 64) rfl))) (mvT hZ (hw _ (List.mem_of_getElem? (i := 63) rfl))) (by decide) (backOf (W := 0) (rm9f l Z a0 hw [] b19 (p3 &&& (63 : Int32)) (p4 &&& (63 : Int32)) b20 b24 b28rF b28rX b28rD (own_f4 f23) b28rB (((1 : Int32) + (1 : Int32)) + (1 : Int32)) (z9 &&& 1) (0 : Int32) (0 : Int32) f23 (own_f9f_AxF (p3 &&& (63 : Int32)) (p4 &&& (63 : Int32)) (own_f4 f23) ((1 : Int32) + (1 : Int32)) (z5 &&& 1) (0 : Int32) (0 : Int32) f23 (fun _ => (0 : Int32)) (fun _ => (0 : Int32)) (fun _ => (0 : Int32)) ((own_iushr (f23 2) (own_f4 f23)) + (2 : Int32)) gB28) (own_f9f_AxX (p3 &&& (63 : Int32)) (p4 &&& (63 : Int32)) (own_f4 f23) ((1 : Int32) + (1 : Int32)) (z5 &&& 1) (0 : Int32) (0 : Int32) f23 (fun _ => (0 : Int32)) (fun _ => (0 : Int32)) (fun _ => (0 : Int32)) ((own_iushr (f23 2) (own_f4 f23)) + (2 : Int32)) gB28) (own_f9f_AxD (p3 &&& (63 : Int32)) (p4 &&& (63 : Int32)) (own_f4 f23) ((1 : Int32) + (1 : Int32)) (z5 &&& 1) (0 : Int32) (0 : Int32) f23 (fun _ => (0 : Int32)) (fun _ => (0 : Int32)) (fun _ => (0 : Int32)) ((own_iushr (f23 2) (own_f4 f23)) + (2 : Int32)) gB28) ((own_iushr (f23 2) (own_f4 f23)) + (2 : Int32)) gB28 T35.heap n0 Z35 F_numbers_b19_35 F_elements_b19_35 F_foundIn_b19_35 F_next_b19_35 F_found_b19_35 F_bucketShift_b19_35 F_bucketStart_b19_35 E_b19_35 F_search_b19_35 F_foundCount_b19_35 F_firstOnly_b19_35 F_forRuns_b19_35 F_runsLength_b19_35 A_b20_35 A_b28rF_35 A_b28rX_35 A_b28rD_35 A_b28rB_35 ge_b19 ge_b28rF ge_b28rX ge_b28rD ne_b20_b28rF ne_b20_b28rX ne_b20_b28rD ne_b20_b28rB ne_b28rF_b28rX ne_b28rF_b28rD ne_b28rF_b28rB ne_b28rX_b28rD ne_b28rX_b28rB ne_b28rD_b28rB ⟨(own_f10v (by rw [hf23]; rw [hf22]; rw [hf21]; rw [← hz1]; exact own_m3srt _ _ _) Pq28_23 _ (own_m63 _)).1, fun i _ => own_fr2 _ _ _ _ _ _ _ _ _ _ _ i⟩) hZ (hw _ (List.mem_of_getElem? (i := 65) rfl)) (hw _ (List.mem_of_getElem? (i := 6) rfl)) (by decide) (by decide)) q37a q37c (g := (mkF m 211 #[.val (.int p0), .val (.int p1), .val (.int p2), .val (.int p3), .val (.int p4), .val (.int p5), .val (.int (p0 &&& (15 : Int32))), .val (.int ((p0 &&& (15 : Int32)) + (p1 &&& (15 : Int32)))), .val (.int z1), .val (.int (p3 &&& (63 : Int32))), .val (.int (p4 &&& (63 : Int32))), .val (.int z5), .val (.int z9), .val (.int z18), .val (.ref b19), .val (.int (own_f7 (0 : Int32) (0 : Int32))), .val (.int (own_f7 (z5 &&& 1) (0 : Int32))), .val (.int z34), .val (.int (own_f7 (z9 &&& 1) (0 : Int32))), .unset] [(.int (p4 &&& (63 : Int32))), (.int (p3 &&& (63 : Int32))), (.ref b19)])) rfl (by rw [hml]; rfl) (Steps.refl _) (argsL := [(.int (p3 &&& (63 : Int32))), (.int (p4 &&& (63 : Int32)))]) (rest := []) (lenOf own_pd8 rfl) rfl (by show 2 * 0 + _ ≤ _; exact Nat.le_of_eq rfl) (hb hby at_211) (fun _ _ => ⟨rfl, e36, (by decide : 8 + 0 ≤ _), (by decide : 40 + 0 ≤ _)⟩)
        dsimp only [Pt.U, Pt.locs, Pt.cells, Pt.slots] at X37 l37 y37 z37 st37 hQ37
        replace y37 : 8 = k37 := y37.symm
        replace z37 : 40 = n37 := z37.symm
        subst y37 z37
        obtain ⟨rfl, N37q, Kq37, F_numbers_b19_37, F_elements_b19_37, F_foundIn_b19_37, F_next_b19_37, F_found_b19_37, F_bucketShift_b19_37, F_bucketStart_b19_37, E_b19_37, F_search_b19_37, F_foundCount_b19_37, F_firstOnly_b19_37, F_forRuns_b19_37, F_runsLength_b19_37, A_b28rF_37, A_b28rX_37, A_b28rD_37⟩ := hQ37
        have N37 : Fr n0 L37 := by rw [l37]; exact Fr.app N36 N37q
        have A_b20_37 := A_b20_35.keep Kq37 (ninS (Ne.symm ne_b19_b20) (ninS ne_b20_b28rF (ninS ne_b20_b28rX (ninS ne_b20_b28rD nin0))))
        have A_b24_37 := A_b24_35.keep Kq37 (ninS (Ne.symm ne_b19_b24) (ninS ne_b24_b28rF (ninS ne_b24_b28rX (ninS ne_b24_b28rD nin0))))
        have A_b28rB_37 := A_b28rB_35.keep Kq37 (ninS (Ne.symm ne_b19_b28rB) (ninS (Ne.symm ne_b28rF_b28rB) (ninS (Ne.symm ne_b28rX_b28rB) (ninS (Ne.symm ne_b28rD_b28rB) nin0))))
        have Z37 : n0 ≤ T37.heap.size := Nat.le_trans Z35 Kq37.1
        refine own_go (fun tg k => st37.trans k) ?_
        show own_Fin _ _ _ _ _ _ _ (T37.setTop (mkF m 214 #[.val (.int p0), .val (.int p1), .val (.int p2), .val (.int p3), .val (.int p4), .val (.int p5), .val (.int (p0 &&& (15 : Int32))), .val (.int ((p0 &&& (15 : Int32)) + (p1 &&& (15 : Int32)))), .val (.int z1), .val (.int (p3 &&& (63 : Int32))), .val (.int (p4 &&& (63 : Int32))), .val (.int z5), .val (.int z9), .val (.int z18), .val (.ref b19), .val (.int (own_f7 (0 : Int32) (0 : Int32))), .val (.int (own_f7 (z5 &&& 1) (0 : Int32))), .val (.int z34), .val (.int (own_f7 (z9 &&& 1) (0 : Int32))), .unset] [(.int (own_f9f (p3 &&& (63 : Int32)) (p4 &&& (63 : Int32)) (own_f4 f23) (((1 : Int32) + (1 : Int32)) + (1 : Int32)) (z9 &&& 1) (0 : Int32) (0 : Int32) f23 (own_f9f_AxF (p3 &&& (63 : Int32)) (p4 &&& (63 : Int32)) (own_f4 f23) ((1 : Int32) + (1 : Int32)) (z5 &&& 1) (0 : Int32) (0 : Int32) f23 (fun _ => (0 : Int32)) (fun _ => (0 : Int32)) (fun _ => (0 : Int32)) ((own_iushr (f23 2) (own_f4 f23)) + (2 : Int32)) gB28) (own_f9f_AxX (p3 &&& (63 : Int32)) (p4 &&& (63 : Int32)) (own_f4 f23) ((1 : Int32) + (1 : Int32)) (z5 &&& 1) (0 : Int32) (0 : Int32) f23 (fun _ => (0 : Int32)) (fun _ => (0 : Int32)) (fun _ => (0 : Int32)) ((own_iushr (f23 2) (own_f4 f23)) + (2 : Int32)) gB28) (own_f9f_AxD (p3 &&& (63 : Int32)) (p4 &&& (63 : Int32)) (own_f4 f23) ((1 : Int32) + (1 : Int32)) (z5 &&& 1) (0 : Int32) (0 : Int32) f23 (fun _ => (0 : Int32)) (fun _ => (0 : Int32)) (fun _ => (0 : Int32)) ((own_iushr (f23 2) (own_f4 f23)) + (2 : Int32)) gB28) ((own_iushr (f23 2) (own_f4 f23)) + (2 : Int32)) gB28))]))
        refine own_go (fun _ k => XS.pop X37.here hx rfl (hb hby at_214) rfl rfl k) ?_
        show own_Fin _ _ _ _ _ _ _ (T37.setTop (mkF m 215 #[.val (.int p0), .val (.int p1), .val (.int p2), .val (.int p3), .val (.int p4), .val (.int p5), .val (.int (p0 &&& (15 : Int32))), .val (.int ((p0 &&& (15 : Int32)) + (p1 &&& (15 : Int32)))), .val (.int z1), .val (.int (p3 &&& (63 : Int32))), .val (.int (p4 &&& (63 : Int32))), .val (.int z5), .val (.int z9), .val (.int z18), .val (.ref b19), .val (.int (own_f7 (0 : Int32) (0 : Int32))), .val (.int (own_f7 (z5 &&& 1) (0 : Int32))), .val (.int z34), .val (.int (own_f7 (z9 &&& 1) (0 : Int32))), .unset] []))
        refine own_go (fun _ k => XS.aload X37.here hx rfl (hb hby at_215) rfl rfl k) ?_
        obtain ⟨cq38, kq38, q38a, q38b, q38c⟩ := isOf hZ rfl E_b19_37
        obtain ⟨_, _, ⟨T38, L38, k38, n38⟩, -, X38, ⟨Lc38, hQ38, l38, y38, z38⟩, st38⟩ := X37.virtualBack hx (y := (⟨"com/example/reachability/reachability/CandidateList", "satisfied", "()Z"⟩ : MethodName)) (z := (⟨"com/example/reachability/reachability/CandidateList", "satisfied", "()Z"⟩ : MethodName)) hown (mvT hZ (hw _ (List.mem_of_getElem? (i := 42) rfl))) (mvT hZ (hw _ (List.mem_of_getElem? (i := 43) rfl))) (notFace_of_selects (args := #[]) (mvT hZ (hw _ (List.mem_of_getElem? (i := 45) rfl)))) (mvT hZ (hw _ (List.mem_of_getElem? (i := 45) rfl))) (mvT hZ (hw _ (List.mem_of_getElem? (i := 44) rfl))) (by decide) (backOf (W := 0) (rm7 l Z a0 hw [] b19 (z9 &&& 1) (own_f9f_foundCount (p3 &&& (63 : Int32)) (p4 &&& (63 : Int32)) (own_f4 f23) (((1 : Int32) + (1 : Int32)) + (1 : Int32)) (z9 &&& 1) (0 : Int32) (0 : Int32) f23 (own_f9f_AxF (p3 &&& (63 : Int32)) (p4 &&& (63 : Int32)) (own_f4 f23) ((1 : Int32) + (1 : Int32)) (z5 &&& 1) (0 : Int32) (0 : Int32) f23 (fun _ => (0 : Int32)) (fun _ => (0 : Int32)) (fun _ => (0 : Int32)) ((own_iushr (f23 2) (own_f4 f23)) + (2 : Int32)) gB28) (own_f9f_AxX (p3 &&& (63 : Int32)) (p4 &&& (63 : Int32)) (own_f4 f23) ((1 : Int32) + (1 : Int32)) (z5 &&& 1) (0 : Int32) (0 : Int32) f23 (fun _ => (0 : Int32)) (fun _ => (0 : Int32)) (fun _ => (0 : Int32)) ((own_iushr (f23 2) (own_f4 f23)) + (2 : Int32)) gB28) (own_f9f_AxD (p3 &&& (63 : Int32)) (p4 &&& (63 : Int32)) (own_f4 f23) ((1 : Int32) + (1 : Int32)) (z5 &&& 1) (0 : Int32) (0 : Int32) f23 (fun _ => (0 : Int32)) (fun _ => (0 : Int32)) (fun _ => (0 : Int32)) ((own_iushr (f23 2) (own_f4 f23)) + (2 : Int32)) gB28) ((own_iushr (f23 2) (own_f4 f23)) + (2 : Int32)) gB28) T37.heap n0 Z37 F_firstOnly_b19_37 F_foundCount_b19_37) hZ (hw _ (List.mem_of_getElem? (i := 46) rfl)) (hw _ (List.mem_of_getElem? (i := 6) rfl)) (by decide) (by decide)) q38a q38c (g := (mkF m 217 #[.val (.int p0), .val (.int p1), .val (.int p2), .val (.int p3), .val (.int p4), .val (.int p5), .val (.int (p0 &&& (15 : Int32))), .val (.int ((p0 &&& (15 : Int32)) + (p1 &&& (15 : Int32)))), .val (.int z1), .val (.int (p3 &&& (63 : Int32))), .val (.int (p4 &&& (63 : Int32))), .val (.int z5), .val (.int z9), .val (.int z18), .val (.ref b19), .val (.int (own_f7 (0 : Int32) (0 : Int32))), .val (.int (own_f7 (z5 &&& 1) (0 : Int32))), .val (.int z34), .val (.int (own_f7 (z9 &&& 1) (0 : Int32))), .unset] [(.ref b19)])) rfl (by rw [hml]; rfl) (Steps.refl _) (argsL := []) (rest := []) (lenOf own_pd429 rfl) rfl (by show 2 * 0 + _ ≤ _; exact Nat.le_of_eq rfl) (hb hby at_217) (fun _ _ => ⟨rfl, rfl, (by decide : 8 + 0 ≤ _), (by decide : 40 + 0 ≤ _)⟩)
        dsimp only [Pt.U, Pt.locs, Pt.cells, Pt.slots] at X38 l38 y38 z38 st38 hQ38
        replace y38 : 8 = k38 := y38.symm
        replace z38 : 40 = n38 := z38.symm
        subst y38 z38
        obtain ⟨rfl, N38q, e38⟩ := hQ38
        have N38 : Fr n0 L38 := by rw [l38]; exact Fr.app N37 N38q
        refine own_go (fun tg k => st38.trans k) ?_
        show own_Fin _ _ _ _ _ _ _ (T38.setTop (mkF m 220 #[.val (.int p0), .val (.int p1), .val (.int p2), .val (.int p3), .val (.int p4), .val (.int p5), .val (.int (p0 &&& (15 : Int32))), .val (.int ((p0 &&& (15 : Int32)) + (p1 &&& (15 : Int32)))), .val (.int z1), .val (.int (p3 &&& (63 : Int32))), .val (.int (p4 &&& (63 : Int32))), .val (.int z5), .val (.int z9), .val (.int z18), .val (.ref b19), .val (.int (own_f7 (0 : Int32) (0 : Int32))), .val (.int (own_f7 (z5 &&& 1) (0 : Int32))), .val (.int z34), .val (.int (own_f7 (z9 &&& 1) (0 : Int32))), .unset] [(.int (own_f7 (z9 &&& 1) (own_f9f_foundCount (p3 &&& (63 : Int32)) (p4 &&& (63 : Int32)) (own_f4 f23) (((1 : Int32) + (1 : Int32)) + (1 : Int32)) (z9 &&& 1) (0 : Int32) (0 : Int32) f23 (own_f9f_AxF (p3 &&& (63 : Int32)) (p4 &&& (63 : Int32)) (own_f4 f23) ((1 : Int32) + (1 : Int32)) (z5 &&& 1) (0 : Int32) (0 : Int32) f23 (fun _ => (0 : Int32)) (fun _ => (0 : Int32)) (fun _ => (0 : Int32)) ((own_iushr (f23 2) (own_f4 f23)) + (2 : Int32)) gB28) (own_f9f_AxX (p3 &&& (63 : Int32)) (p4 &&& (63 : Int32)) (own_f4 f23) ((1 : Int32) + (1 : Int32)) (z5 &&& 1) (0 : Int32) (0 : Int32) f23 (fun _ => (0 : Int32)) (fun _ => (0 : Int32)) (fun _ => (0 : Int32)) ((own_iushr (f23 2) (own_f4 f23)) + (2 : Int32)) gB28) (own_f9f_AxD (p3 &&& (63 : Int32)) (p4 &&& (63 : Int32)) (own_f4 f23) ((1 : Int32) + (1 : Int32)) (z5 &&& 1) (0 : Int32) (0 : Int32) f23 (fun _ => (0 : Int32)) (fun _ => (0 : Int32)) (fun _ => (0 : Int32)) ((own_iushr (f23 2) (own_f4 f23)) + (2 : Int32)) gB28) ((own_iushr (f23 2) (own_f4 f23)) + (2 : Int32)) gB28)))]))
        refine own_go (fun _ k => XS.istore X38.here hx rfl (hb hby at_220) rfl (l' := #[.val (.int p0), .val (.int p1), .val (.int p2), .val (.int p3), .val (.int p4), .val (.int p5), .val (.int (p0 &&& (15 : Int32))), .val (.int ((p0 &&& (15 : Int32)) + (p1 &&& (15 : Int32)))), .val (.int z1), .val (.int (p3 &&& (63 : Int32))), .val (.int (p4 &&& (63 : Int32))), .val (.int z5), .val (.int z9), .val (.int z18), .val (.ref b19), .val (.int (own_f7 (0 : Int32) (0 : Int32))), .val (.int (own_f7 (z5 &&& 1) (0 : Int32))), .val (.int z34), .val (.int (own_f7 (z9 &&& 1) (0 : Int32))), .val (.int (own_f7 (z9 &&& 1) (own_f9f_foundCount (p3 &&& (63 : Int32)) (p4 &&& (63 : Int32)) (own_f4 f23) (((1 : Int32) + (1 : Int32)) + (1 : Int32)) (z9 &&& 1) (0 : Int32) (0 : Int32) f23 (own_f9f_AxF (p3 &&& (63 : Int32)) (p4 &&& (63 : Int32)) (own_f4 f23) ((1 : Int32) + (1 : Int32)) (z5 &&& 1) (0 : Int32) (0 : Int32) f23 (fun _ => (0 : Int32)) (fun _ => (0 : Int32)) (fun _ => (0 : Int32)) ((own_iushr (f23 2) (own_f4 f23)) + (2 : Int32)) gB28) (own_f9f_AxX (p3 &&& (63 : Int32)) (p4 &&& (63 : Int32)) (own_f4 f23) ((1 : Int32) + (1 : Int32)) (z5 &&& 1) (0 : Int32) (0 : Int32) f23 (fun _ => (0 : Int32)) (fun _ => (0 : Int32)) (fun _ => (0 : Int32)) ((own_iushr (f23 2) (own_f4 f23)) + (2 : Int32)) gB28) (own_f9f_AxD (p3 &&& (63 : Int32)) (p4 &&& (63 : Int32)) (own_f4 f23) ((1 : Int32) + (1 : Int32)) (z5 &&& 1) (0 : Int32) (0 : Int32) f23 (fun _ => (0 : Int32)) (fun _ => (0 : Int32)) (fun _ => (0 : Int32)) ((own_iushr (f23 2) (own_f4 f23)) + (2 : Int32)) gB28) ((own_iushr (f23 2) (own_f4 f23)) + (2 : Int32)) gB28)))]) rfl k) ?_
        show own_Fin _ _ _ _ _ _ _ (T38.setTop (mkF m 222 #[.val (.int p0), .val (.int p1), .val (.int p2), .val (.int p3), .val (.int p4), .val (.int p5), .val (.int (p0 &&& (15 : Int32))), .val (.int ((p0 &&& (15 : Int32)) + (p1 &&& (15 : Int32)))), .val (.int z1), .val (.int (p3 &&& (63 : Int32))), .val (.int (p4 &&& (63 : Int32))), .val (.int z5), .val (.int z9), .val (.int z18), .val (.ref b19), .val (.int (own_f7 (0 : Int32) (0 : Int32))), .val (.int (own_f7 (z5 &&& 1) (0 : Int32))), .val (.int z34), .val (.int (own_f7 (z9 &&& 1) (0 : Int32))), .val (.int (own_f7 (z9 &&& 1) (own_f9f_foundCount (p3 &&& (63 : Int32)) (p4 &&& (63 : Int32)) (own_f4 f23) (((1 : Int32) + (1 : Int32)) + (1 : Int32)) (z9 &&& 1) (0 : Int32) (0 : Int32) f23 (own_f9f_AxF (p3 &&& (63 : Int32)) (p4 &&& (63 : Int32)) (own_f4 f23) ((1 : Int32) + (1 : Int32)) (z5 &&& 1) (0 : Int32) (0 : Int32) f23 (fun _ => (0 : Int32)) (fun _ => (0 : Int32)) (fun _ => (0 : Int32)) ((own_iushr (f23 2) (own_f4 f23)) + (2 : Int32)) gB28) (own_f9f_AxX (p3 &&& (63 : Int32)) (p4 &&& (63 : Int32)) (own_f4 f23) ((1 : Int32) + (1 : Int32)) (z5 &&& 1) (0 : Int32) (0 : Int32) f23 (fun _ => (0 : Int32)) (fun _ => (0 : Int32)) (fun _ => (0 : Int32)) ((own_iushr (f23 2) (own_f4 f23)) + (2 : Int32)) gB28) (own_f9f_AxD (p3 &&& (63 : Int32)) (p4 &&& (63 : Int32)) (own_f4 f23) ((1 : Int32) + (1 : Int32)) (z5 &&& 1) (0 : Int32) (0 : Int32) f23 (fun _ => (0 : Int32)) (fun _ => (0 : Int32)) (fun _ => (0 : Int32)) ((own_iushr (f23 2) (own_f4 f23)) + (2 : Int32)) gB28) ((own_iushr (f23 2) (own_f4 f23)) + (2 : Int32)) gB28)))] []))
        generalize hz39 : (own_f7 (z9 &&& 1) (own_f9f_foundCount (p3 &&& (63 : Int32)) (p4 &&& (63 : Int32)) (own_f4 f23) (((1 : Int32) + (1 : Int32)) + (1 : Int32)) (z9 &&& 1) (0 : Int32) (0 : Int32) f23 (own_f9f_AxF (p3 &&& (63 : Int32)) (p4 &&& (63 : Int32)) (own_f4 f23) ((1 : Int32) + (1 : Int32)) (z5 &&& 1) (0 : Int32) (0 : Int32) f23 (fun _ => (0 : Int32)) (fun _ => (0 : Int32)) (fun _ => (0 : Int32)) ((own_iushr (f23 2) (own_f4 f23)) + (2 : Int32)) gB28) (own_f9f_AxX (p3 &&& (63 : Int32)) (p4 &&& (63 : Int32)) (own_f4 f23) ((1 : Int32) + (1 : Int32)) (z5 &&& 1) (0 : Int32) (0 : Int32) f23 (fun _ => (0 : Int32)) (fun _ => (0 : Int32)) (fun _ => (0 : Int32)) ((own_iushr (f23 2) (own_f4 f23)) + (2 : Int32)) gB28) (own_f9f_AxD (p3 &&& (63 : Int32)) (p4 &&& (63 : Int32)) (own_f4 f23) ((1 : Int32) + (1 : Int32)) (z5 &&& 1) (0 : Int32) (0 : Int32) f23 (fun _ => (0 : Int32)) (fun _ => (0 : Int32)) (fun _ => (0 : Int32)) ((own_iushr (f23 2) (own_f4 f23)) + (2 : Int32)) gB28) ((own_iushr (f23 2) (own_f4 f23)) + (2 : Int32)) gB28)) = z39
        show own_Fin _ _ _ _ _ _ _ (T38.setTop (mkF m 222 #[.val (.int p0), .val (.int p1), .val (.int p2), .val (.int p3), .val (.int p4), .val (.int p5), .val (.int (p0 &&& (15 : Int32))), .val (.int ((p0 &&& (15 : Int32)) + (p1 &&& (15 : Int32)))), .val (.int z1), .val (.int (p3 &&& (63 : Int32))), .val (.int (p4 &&& (63 : Int32))), .val (.int z5), .val (.int z9), .val (.int z18), .val (.ref b19), .val (.int (own_f7 (0 : Int32) (0 : Int32))), .val (.int (own_f7 (z5 &&& 1) (0 : Int32))), .val (.int z34), .val (.int (own_f7 (z9 &&& 1) (0 : Int32))), .val (.int z39)] []))
        refine own_go (fun _ k => XS.iload X38.here hx rfl (hb hby at_222) rfl k) ?_
        show own_Fin _ _ _ _ _ _ _ (T38.setTop (mkF m 224 #[.val (.int p0), .val (.int p1), .val (.int p2), .val (.int p3), .val (.int p4), .val (.int p5), .val (.int (p0 &&& (15 : Int32))), .val (.int ((p0 &&& (15 : Int32)) + (p1 &&& (15 : Int32)))), .val (.int z1), .val (.int (p3 &&& (63 : Int32))), .val (.int (p4 &&& (63 : Int32))), .val (.int z5), .val (.int z9), .val (.int z18), .val (.ref b19), .val (.int (own_f7 (0 : Int32) (0 : Int32))), .val (.int (own_f7 (z5 &&& 1) (0 : Int32))), .val (.int z34), .val (.int (own_f7 (z9 &&& 1) (0 : Int32))), .val (.int z39)] [(.int (own_f7 (0 : Int32) (0 : Int32)))]))
        by_cases hc40 : (own_f7 (0 : Int32) (0 : Int32)) = (0 : Int32)
        · refine own_go (fun _ k => XS.ifNo X38.here hx rfl (hb hby at_224) rfl ((if0 _ _).trans (teq hc40).2) k) ?_
          show own_Fin _ _ _ _ _ _ _ (T38.setTop (mkF m 227 #[.val (.int p0), .val (.int p1), .val (.int p2), .val (.int p3), .val (.int p4), .val (.int p5), .val (.int (p0 &&& (15 : Int32))), .val (.int ((p0 &&& (15 : Int32)) + (p1 &&& (15 : Int32)))), .val (.int z1), .val (.int (p3 &&& (63 : Int32))), .val (.int (p4 &&& (63 : Int32))), .val (.int z5), .val (.int z9), .val (.int z18), .val (.ref b19), .val (.int (own_f7 (0 : Int32) (0 : Int32))), .val (.int (own_f7 (z5 &&& 1) (0 : Int32))), .val (.int z34), .val (.int (own_f7 (z9 &&& 1) (0 : Int32))), .val (.int z39)] []))
          refine own_go (fun _ k => XS.iload X38.here hx rfl (hb hby at_227) rfl k) ?_
          show own_Fin _ _ _ _ _ _ _ (T38.setTop (mkF m 229 #[.val (.int p0), .val (.int p1), .val (.int p2), .val (.int p3), .val (.int p4), .val (.int p5), .val (.int (p0 &&& (15 : Int32))), .val (.int ((p0 &&& (15 : Int32)) + (p1 &&& (15 : Int32)))), .val (.int z1), .val (.int (p3 &&& (63 : Int32))), .val (.int (p4 &&& (63 : Int32))), .val (.int z5), .val (.int z9), .val (.int z18), .val (.ref b19), .val (.int (own_f7 (0 : Int32) (0 : Int32))), .val (.int (own_f7 (z5 &&& 1) (0 : Int32))), .val (.int z34), .val (.int (own_f7 (z9 &&& 1) (0 : Int32))), .val (.int z39)] [(.int (own_f7 (z5 &&& 1) (0 : Int32)))]))
          by_cases hc41 : (own_f7 (z5 &&& 1) (0 : Int32)) = (0 : Int32)
          · refine own_go (fun _ k => XS.ifNo X38.here hx rfl (hb hby at_229) rfl ((if0 _ _).trans (teq hc41).2) k) ?_
            show own_Fin _ _ _ _ _ _ _ (T38.setTop (mkF m 232 #[.val (.int p0), .val (.int p1), .val (.int p2), .val (.int p3), .val (.int p4), .val (.int p5), .val (.int (p0 &&& (15 : Int32))), .val (.int ((p0 &&& (15 : Int32)) + (p1 &&& (15 : Int32)))), .val (.int z1), .val (.int (p3 &&& (63 : Int32))), .val (.int (p4 &&& (63 : Int32))), .val (.int z5), .val (.int z9), .val (.int z18), .val (.ref b19), .val (.int (own_f7 (0 : Int32) (0 : Int32))), .val (.int (own_f7 (z5 &&& 1) (0 : Int32))), .val (.int z34), .val (.int (own_f7 (z9 &&& 1) (0 : Int32))), .val (.int z39)] []))
            refine own_go (fun _ k => XS.iload X38.here hx rfl (hb hby at_232) rfl k) ?_
            refine own_go (fun _ k => XS.iload X38.here hx rfl (hb hby at_234) rfl k) ?_
            show own_Fin _ _ _ _ _ _ _ (T38.setTop (mkF m 236 #[.val (.int p0), .val (.int p1), .val (.int p2), .val (.int p3), .val (.int p4), .val (.int p5), .val (.int (p0 &&& (15 : Int32))), .val (.int ((p0 &&& (15 : Int32)) + (p1 &&& (15 : Int32)))), .val (.int z1), .val (.int (p3 &&& (63 : Int32))), .val (.int (p4 &&& (63 : Int32))), .val (.int z5), .val (.int z9), .val (.int z18), .val (.ref b19), .val (.int (own_f7 (0 : Int32) (0 : Int32))), .val (.int (own_f7 (z5 &&& 1) (0 : Int32))), .val (.int z34), .val (.int (own_f7 (z9 &&& 1) (0 : Int32))), .val (.int z39)] [(.int z5), (.int z34)]))
            have hk43 : ∀ (T' : State) (L' : List Loc), Stand p l e room_1 s m #[(.int p0), (.int p1), (.int p2), (.int p3), (.int p4), (.int p5)] below meth c T' L' 8 40 → Fr n0 L' → T'.heap = T37.heap → own_Fin p.tables e below s (own_QL (some (.int (1 : Int32))) n0) 24 192 (T'.setTop (mkF m 249 #[.val (.int p0), .val (.int p1), .val (.int p2), .val (.int p3), .val (.int p4), .val (.int p5), .val (.int (p0 &&& (15 : Int32))), .val (.int ((p0 &&& (15 : Int32)) + (p1 &&& (15 : Int32)))), .val (.int z1), .val (.int (p3 &&& (63 : Int32))), .val (.int (p4 &&& (63 : Int32))), .val (.int z5), .val (.int z9), .val (.int z18), .val (.ref b19), .val (.int (own_f7 (0 : Int32) (0 : Int32))), .val (.int (own_f7 (z5 &&& 1) (0 : Int32))), .val (.int z34), .val (.int (own_f7 (z9 &&& 1) (0 : Int32))), .val (.int z39)] [(.int (if z5 = (0 : Int32) then (0 : Int32) else (if z18 = (0 : Int32) then (0 : Int32) else (1 : Int32)))), (.int z34)])) := by
              intro T45 L45 X45 N45 e45
              generalize hz46 : (if z5 = (0 : Int32) then (0 : Int32) else (if z18 = (0 : Int32) then (0 : Int32) else (1 : Int32))) = z46
              show own_Fin _ _ _ _ _ _ _ (T45.setTop (mkF m 249 #[.val (.int p0), .val (.int p1), .val (.int p2), .val (.int p3), .val (.int p4), .val (.int p5), .val (.int (p0 &&& (15 : Int32))), .val (.int ((p0 &&& (15 : Int32)) + (p1 &&& (15 : Int32)))), .val (.int z1), .val (.int (p3 &&& (63 : Int32))), .val (.int (p4 &&& (63 : Int32))), .val (.int z5), .val (.int z9), .val (.int z18), .val (.ref b19), .val (.int (own_f7 (0 : Int32) (0 : Int32))), .val (.int (own_f7 (z5 &&& 1) (0 : Int32))), .val (.int z34), .val (.int (own_f7 (z9 &&& 1) (0 : Int32))), .val (.int z39)] [(.int z46), (.int z34)]))
              by_cases hc47 : z34 = z46
              · refine own_go (fun _ k => XS.icmpNo X45.here hx rfl (hb hby at_249) rfl (teq hc47).2 k) ?_
                show own_Fin _ _ _ _ _ _ _ (T45.setTop (mkF m 252 #[.val (.int p0), .val (.int p1), .val (.int p2), .val (.int p3), .val (.int p4), .val (.int p5), .val (.int (p0 &&& (15 : Int32))), .val (.int ((p0 &&& (15 : Int32)) + (p1 &&& (15 : Int32)))), .val (.int z1), .val (.int (p3 &&& (63 : Int32))), .val (.int (p4 &&& (63 : Int32))), .val (.int z5), .val (.int z9), .val (.int z18), .val (.ref b19), .val (.int (own_f7 (0 : Int32) (0 : Int32))), .val (.int (own_f7 (z5 &&& 1) (0 : Int32))), .val (.int z34), .val (.int (own_f7 (z9 &&& 1) (0 : Int32))), .val (.int z39)] []))
                refine own_go (fun _ k => XS.iload X45.here hx rfl (hb hby at_252) rfl k) ?_
                show own_Fin _ _ _ _ _ _ _ (T45.setTop (mkF m 254 #[.val (.int p0), .val (.int p1), .val (.int p2), .val (.int p3), .val (.int p4), .val (.int p5), .val (.int (p0 &&& (15 : Int32))), .val (.int ((p0 &&& (15 : Int32)) + (p1 &&& (15 : Int32)))), .val (.int z1), .val (.int (p3 &&& (63 : Int32))), .val (.int (p4 &&& (63 : Int32))), .val (.int z5), .val (.int z9), .val (.int z18), .val (.ref b19), .val (.int (own_f7 (0 : Int32) (0 : Int32))), .val (.int (own_f7 (z5 &&& 1) (0 : Int32))), .val (.int z34), .val (.int (own_f7 (z9 &&& 1) (0 : Int32))), .val (.int z39)] [(.int (own_f7 (z9 &&& 1) (0 : Int32)))]))
                by_cases hc48 : (own_f7 (z9 &&& 1) (0 : Int32)) = (0 : Int32)
                · refine own_go (fun _ k => XS.ifNo X45.here hx rfl (hb hby at_254) rfl ((if0 _ _).trans (teq hc48).2) k) ?_
                  show own_Fin _ _ _ _ _ _ _ (T45.setTop (mkF m 257 #[.val (.int p0), .val (.int p1), .val (.int p2), .val (.int p3), .val (.int p4), .val (.int p5), .val (.int (p0 &&& (15 : Int32))), .val (.int ((p0 &&& (15 : Int32)) + (p1 &&& (15 : Int32)))), .val (.int z1), .val (.int (p3 &&& (63 : Int32))), .val (.int (p4 &&& (63 : Int32))), .val (.int z5), .val (.int z9), .val (.int z18), .val (.ref b19), .val (.int (own_f7 (0 : Int32) (0 : Int32))), .val (.int (own_f7 (z5 &&& 1) (0 : Int32))), .val (.int z34), .val (.int (own_f7 (z9 &&& 1) (0 : Int32))), .val (.int z39)] []))
                  refine own_go (fun _ k => XS.iload X45.here hx rfl (hb hby at_257) rfl k) ?_
                  refine own_go (fun _ k => XS.iload X45.here hx rfl (hb hby at_259) rfl k) ?_
                  show own_Fin _ _ _ _ _ _ _ (T45.setTop (mkF m 261 #[.val (.int p0), .val (.int p1), .val (.int p2), .val (.int p3), .val (.int p4), .val (.int p5), .val (.int (p0 &&& (15 : Int32))), .val (.int ((p0 &&& (15 : Int32)) + (p1 &&& (15 : Int32)))), .val (.int z1), .val (.int (p3 &&& (63 : Int32))), .val (.int (p4 &&& (63 : Int32))), .val (.int z5), .val (.int z9), .val (.int z18), .val (.ref b19), .val (.int (own_f7 (0 : Int32) (0 : Int32))), .val (.int (own_f7 (z5 &&& 1) (0 : Int32))), .val (.int z34), .val (.int (own_f7 (z9 &&& 1) (0 : Int32))), .val (.int z39)] [(.int z9), (.int z39)]))
                  have hk50 : ∀ (T' : State) (L' : List Loc), Stand p l e room_1 s m #[(.int p0), (.int p1), (.int p2), (.int p3), (.int p4), (.int p5)] below meth c T' L' 8 40 → Fr n0 L' → T'.heap = T37.heap → own_Fin p.tables e below s (own_QL (some (.int (1 : Int32))) n0) 24 192 (T'.setTop (mkF m 274 #[.val (.int p0), .val (.int p1), .val (.int p2), .val (.int p3), .val (.int p4), .val (.int p5), .val (.int (p0 &&& (15 : Int32))), .val (.int ((p0 &&& (15 : Int32)) + (p1 &&& (15 : Int32)))), .val (.int z1), .val (.int (p3 &&& (63 : Int32))), .val (.int (p4 &&& (63 : Int32))), .val (.int z5), .val (.int z9), .val (.int z18), .val (.ref b19), .val (.int (own_f7 (0 : Int32) (0 : Int32))), .val (.int (own_f7 (z5 &&& 1) (0 : Int32))), .val (.int z34), .val (.int (own_f7 (z9 &&& 1) (0 : Int32))), .val (.int z39)] [(.int (if z9 = (0 : Int32) then (0 : Int32) else (if z18 = (0 : Int32) then (0 : Int32) else (1 : Int32)))), (.int z39)])) := by
                    intro T52 L52 X52 N52 e52
                    generalize hz53 : (if z9 = (0 : Int32) then (0 : Int32) else (if z18 = (0 : Int32) then (0 : Int32) else (1 : Int32))) = z53
                    show own_Fin _ _ _ _ _ _ _ (T52.setTop (mkF m 274 #[.val (.int p0), .val (.int p1), .val (.int p2), .val (.int p3), .val (.int p4), .val (.int p5), .val (.int (p0 &&& (15 : Int32))), .val (.int ((p0 &&& (15 : Int32)) + (p1 &&& (15 : Int32)))), .val (.int z1), .val (.int (p3 &&& (63 : Int32))), .val (.int (p4 &&& (63 : Int32))), .val (.int z5), .val (.int z9), .val (.int z18), .val (.ref b19), .val (.int (own_f7 (0 : Int32) (0 : Int32))), .val (.int (own_f7 (z5 &&& 1) (0 : Int32))), .val (.int z34), .val (.int (own_f7 (z9 &&& 1) (0 : Int32))), .val (.int z39)] [(.int z53), (.int z39)]))
                    by_cases hc54 : z39 = z53
                    · refine own_go (fun _ k => XS.icmpNo X52.here hx rfl (hb hby at_274) rfl (teq hc54).2 k) ?_
                      show own_Fin _ _ _ _ _ _ _ (T52.setTop (mkF m 277 #[.val (.int p0), .val (.int p1), .val (.int p2), .val (.int p3), .val (.int p4), .val (.int p5), .val (.int (p0 &&& (15 : Int32))), .val (.int ((p0 &&& (15 : Int32)) + (p1 &&& (15 : Int32)))), .val (.int z1), .val (.int (p3 &&& (63 : Int32))), .val (.int (p4 &&& (63 : Int32))), .val (.int z5), .val (.int z9), .val (.int z18), .val (.ref b19), .val (.int (own_f7 (0 : Int32) (0 : Int32))), .val (.int (own_f7 (z5 &&& 1) (0 : Int32))), .val (.int z34), .val (.int (own_f7 (z9 &&& 1) (0 : Int32))), .val (.int z39)] []))
                      refine own_go (fun _ k => XS.iconst X52.here hx rfl (hb hby at_277) k) ?_
                      show own_Fin _ _ _ _ _ _ _ (T52.setTop (mkF m 278 #[.val (.int p0), .val (.int p1), .val (.int p2), .val (.int p3), .val (.int p4), .val (.int p5), .val (.int (p0 &&& (15 : Int32))), .val (.int ((p0 &&& (15 : Int32)) + (p1 &&& (15 : Int32)))), .val (.int z1), .val (.int (p3 &&& (63 : Int32))), .val (.int (p4 &&& (63 : Int32))), .val (.int z5), .val (.int z9), .val (.int z18), .val (.ref b19), .val (.int (own_f7 (0 : Int32) (0 : Int32))), .val (.int (own_f7 (z5 &&& 1) (0 : Int32))), .val (.int z34), .val (.int (own_f7 (z9 &&& 1) (0 : Int32))), .val (.int z39)] [(.int (1 : Int32))]))
                      refine own_go (fun _ k => XS.goto X52.here hx rfl (pc0 := 278) (pc' := 282) rfl (hb hby at_278) (by decide) (by decide) k) ?_
                      show own_Fin _ _ _ _ _ _ _ (T52.setTop (mkF m 282 #[.val (.int p0), .val (.int p1), .val (.int p2), .val (.int p3), .val (.int p4), .val (.int p5), .val (.int (p0 &&& (15 : Int32))), .val (.int ((p0 &&& (15 : Int32)) + (p1 &&& (15 : Int32)))), .val (.int z1), .val (.int (p3 &&& (63 : Int32))), .val (.int (p4 &&& (63 : Int32))), .val (.int z5), .val (.int z9), .val (.int z18), .val (.ref b19), .val (.int (own_f7 (0 : Int32) (0 : Int32))), .val (.int (own_f7 (z5 &&& 1) (0 : Int32))), .val (.int z34), .val (.int (own_f7 (z9 &&& 1) (0 : Int32))), .val (.int z39)] [(.int (1 : Int32))]))
                      refine own_ret X52 hx hlk Bd.returns rfl (Or.inl ⟨rfl, by simp, _, rfl⟩) (hb hby at_282) (Nat.le_of_ble_eq_true rfl) (Nat.le_of_ble_eq_true rfl) ?_
                      exact ⟨(own_lf_own_f0_1 (p0 := p0) (p1 := p1) (p2 := p2) (p3 := p3) (p4 := p4) (p5 := p5) (gB28 := gB28) hz1 hz5 hz9 hz18 hf21 hf22 hf23 hz34 hz39 hz46 hz53 hc40 hc41 hc47 hc48 hc54).trans (congrArg (fun z => some (Value.int z)) (own_plain p0 p1 p2 p3 p4 p5 gB28 (by have q := Pq28_23; rw [hf23, hf22, hf21, ← hz1] at q; exact q))), N52, trivial⟩
                    · refine own_go (fun _ k => XS.icmpYes X52.here hx rfl (pc0 := 274) (pc' := 281) rfl (hb hby at_274) rfl (feq hc54).2 (by decide) (by decide) k) ?_
                      show own_Fin _ _ _ _ _ _ _ (T52.setTop (mkF m 281 #[.val (.int p0), .val (.int p1), .val (.int p2), .val (.int p3), .val (.int p4), .val (.int p5), .val (.int (p0 &&& (15 : Int32))), .val (.int ((p0 &&& (15 : Int32)) + (p1 &&& (15 : Int32)))), .val (.int z1), .val (.int (p3 &&& (63 : Int32))), .val (.int (p4 &&& (63 : Int32))), .val (.int z5), .val (.int z9), .val (.int z18), .val (.ref b19), .val (.int (own_f7 (0 : Int32) (0 : Int32))), .val (.int (own_f7 (z5 &&& 1) (0 : Int32))), .val (.int z34), .val (.int (own_f7 (z9 &&& 1) (0 : Int32))), .val (.int z39)] []))
                      refine own_go (fun _ k => XS.iconst X52.here hx rfl (hb hby at_281) k) ?_
                      show own_Fin _ _ _ _ _ _ _ (T52.setTop (mkF m 282 #[.val (.int p0), .val (.int p1), .val (.int p2), .val (.int p3), .val (.int p4), .val (.int p5), .val (.int (p0 &&& (15 : Int32))), .val (.int ((p0 &&& (15 : Int32)) + (p1 &&& (15 : Int32)))), .val (.int z1), .val (.int (p3 &&& (63 : Int32))), .val (.int (p4 &&& (63 : Int32))), .val (.int z5), .val (.int z9), .val (.int z18), .val (.ref b19), .val (.int (own_f7 (0 : Int32) (0 : Int32))), .val (.int (own_f7 (z5 &&& 1) (0 : Int32))), .val (.int z34), .val (.int (own_f7 (z9 &&& 1) (0 : Int32))), .val (.int z39)] [(.int (0 : Int32))]))
                      refine own_ret X52 hx hlk Bd.returns rfl (Or.inl ⟨rfl, by simp, _, rfl⟩) (hb hby at_282) (Nat.le_of_ble_eq_true rfl) (Nat.le_of_ble_eq_true rfl) ?_
                      exact ⟨(own_lf_own_f0_2 (p0 := p0) (p1 := p1) (p2 := p2) (p3 := p3) (p4 := p4) (p5 := p5) (gB28 := gB28) hz1 hz5 hz9 hz18 hf21 hf22 hf23 hz34 hz39 hz46 hz53 hc40 hc41 hc47 hc48 hc54).trans (congrArg (fun z => some (Value.int z)) (own_plain p0 p1 p2 p3 p4 p5 gB28 (by have q := Pq28_23; rw [hf23, hf22, hf21, ← hz1] at q; exact q))), N52, trivial⟩
                  by_cases hc49 : z9 = (0 : Int32)
                  · refine own_go (fun _ k => XS.ifYes X45.here hx rfl (pc0 := 261) (pc' := 273) rfl (hb hby at_261) rfl ((if0 _ _).trans (teq hc49).1) (by decide) (by decide) k) ?_
                    show own_Fin _ _ _ _ _ _ _ (T45.setTop (mkF m 273 #[.val (.int p0), .val (.int p1), .val (.int p2), .val (.int p3), .val (.int p4), .val (.int p5), .val (.int (p0 &&& (15 : Int32))), .val (.int ((p0 &&& (15 : Int32)) + (p1 &&& (15 : Int32)))), .val (.int z1), .val (.int (p3 &&& (63 : Int32))), .val (.int (p4 &&& (63 : Int32))), .val (.int z5), .val (.int z9), .val (.int z18), .val (.ref b19), .val (.int (own_f7 (0 : Int32) (0 : Int32))), .val (.int (own_f7 (z5 &&& 1) (0 : Int32))), .val (.int z34), .val (.int (own_f7 (z9 &&& 1) (0 : Int32))), .val (.int z39)] [(.int z39)]))
                    refine own_go (fun _ k => XS.iconst X45.here hx rfl (hb hby at_273) k) ?_
                    show own_Fin _ _ _ _ _ _ _ (T45.setTop (mkF m 274 #[.val (.int p0), .val (.int p1), .val (.int p2), .val (.int p3), .val (.int p4), .val (.int p5), .val (.int (p0 &&& (15 : Int32))), .val (.int ((p0 &&& (15 : Int32)) + (p1 &&& (15 : Int32)))), .val (.int z1), .val (.int (p3 &&& (63 : Int32))), .val (.int (p4 &&& (63 : Int32))), .val (.int z5), .val (.int z9), .val (.int z18), .val (.ref b19), .val (.int (own_f7 (0 : Int32) (0 : Int32))), .val (.int (own_f7 (z5 &&& 1) (0 : Int32))), .val (.int z34), .val (.int (own_f7 (z9 &&& 1) (0 : Int32))), .val (.int z39)] [(.int (0 : Int32)), (.int z39)]))
                    have kj := hk50 T45 _ (own_mono X45 (by decide) (by decide)) N45 e45
                    simpa only [if_pos hc49] using kj
                  · refine own_go (fun _ k => XS.ifNo X45.here hx rfl (hb hby at_261) rfl ((if0 _ _).trans (feq hc49).1) k) ?_
                    show own_Fin _ _ _ _ _ _ _ (T45.setTop (mkF m 264 #[.val (.int p0), .val (.int p1), .val (.int p2), .val (.int p3), .val (.int p4), .val (.int p5), .val (.int (p0 &&& (15 : Int32))), .val (.int ((p0 &&& (15 : Int32)) + (p1 &&& (15 : Int32)))), .val (.int z1), .val (.int (p3 &&& (63 : Int32))), .val (.int (p4 &&& (63 : Int32))), .val (.int z5), .val (.int z9), .val (.int z18), .val (.ref b19), .val (.int (own_f7 (0 : Int32) (0 : Int32))), .val (.int (own_f7 (z5 &&& 1) (0 : Int32))), .val (.int z34), .val (.int (own_f7 (z9 &&& 1) (0 : Int32))), .val (.int z39)] [(.int z39)]))
                    refine own_go (fun _ k => XS.iload X45.here hx rfl (hb hby at_264) rfl k) ?_
                    show own_Fin _ _ _ _ _ _ _ (T45.setTop (mkF m 266 #[.val (.int p0), .val (.int p1), .val (.int p2), .val (.int p3), .val (.int p4), .val (.int p5), .val (.int (p0 &&& (15 : Int32))), .val (.int ((p0 &&& (15 : Int32)) + (p1 &&& (15 : Int32)))), .val (.int z1), .val (.int (p3 &&& (63 : Int32))), .val (.int (p4 &&& (63 : Int32))), .val (.int z5), .val (.int z9), .val (.int z18), .val (.ref b19), .val (.int (own_f7 (0 : Int32) (0 : Int32))), .val (.int (own_f7 (z5 &&& 1) (0 : Int32))), .val (.int z34), .val (.int (own_f7 (z9 &&& 1) (0 : Int32))), .val (.int z39)] [(.int z18), (.int z39)]))
                    by_cases hc51 : z18 = (0 : Int32)
                    · refine own_go (fun _ k => XS.ifYes X45.here hx rfl (pc0 := 266) (pc' := 273) rfl (hb hby at_266) rfl ((if0 _ _).trans (teq hc51).1) (by decide) (by decide) k) ?_
                      show own_Fin _ _ _ _ _ _ _ (T45.setTop (mkF m 273 #[.val (.int p0), .val (.int p1), .val (.int p2), .val (.int p3), .val (.int p4), .val (.int p5), .val (.int (p0 &&& (15 : Int32))), .val (.int ((p0 &&& (15 : Int32)) + (p1 &&& (15 : Int32)))), .val (.int z1), .val (.int (p3 &&& (63 : Int32))), .val (.int (p4 &&& (63 : Int32))), .val (.int z5), .val (.int z9), .val (.int z18), .val (.ref b19), .val (.int (own_f7 (0 : Int32) (0 : Int32))), .val (.int (own_f7 (z5 &&& 1) (0 : Int32))), .val (.int z34), .val (.int (own_f7 (z9 &&& 1) (0 : Int32))), .val (.int z39)] [(.int z39)]))
                      refine own_go (fun _ k => XS.iconst X45.here hx rfl (hb hby at_273) k) ?_
                      show own_Fin _ _ _ _ _ _ _ (T45.setTop (mkF m 274 #[.val (.int p0), .val (.int p1), .val (.int p2), .val (.int p3), .val (.int p4), .val (.int p5), .val (.int (p0 &&& (15 : Int32))), .val (.int ((p0 &&& (15 : Int32)) + (p1 &&& (15 : Int32)))), .val (.int z1), .val (.int (p3 &&& (63 : Int32))), .val (.int (p4 &&& (63 : Int32))), .val (.int z5), .val (.int z9), .val (.int z18), .val (.ref b19), .val (.int (own_f7 (0 : Int32) (0 : Int32))), .val (.int (own_f7 (z5 &&& 1) (0 : Int32))), .val (.int z34), .val (.int (own_f7 (z9 &&& 1) (0 : Int32))), .val (.int z39)] [(.int (0 : Int32)), (.int z39)]))
                      have kj := hk50 T45 _ (own_mono X45 (by decide) (by decide)) N45 e45
                      simpa only [if_neg hc49, if_pos hc51] using kj
                    · refine own_go (fun _ k => XS.ifNo X45.here hx rfl (hb hby at_266) rfl ((if0 _ _).trans (feq hc51).1) k) ?_
                      show own_Fin _ _ _ _ _ _ _ (T45.setTop (mkF m 269 #[.val (.int p0), .val (.int p1), .val (.int p2), .val (.int p3), .val (.int p4), .val (.int p5), .val (.int (p0 &&& (15 : Int32))), .val (.int ((p0 &&& (15 : Int32)) + (p1 &&& (15 : Int32)))), .val (.int z1), .val (.int (p3 &&& (63 : Int32))), .val (.int (p4 &&& (63 : Int32))), .val (.int z5), .val (.int z9), .val (.int z18), .val (.ref b19), .val (.int (own_f7 (0 : Int32) (0 : Int32))), .val (.int (own_f7 (z5 &&& 1) (0 : Int32))), .val (.int z34), .val (.int (own_f7 (z9 &&& 1) (0 : Int32))), .val (.int z39)] [(.int z39)]))
                      refine own_go (fun _ k => XS.iconst X45.here hx rfl (hb hby at_269) k) ?_
                      show own_Fin _ _ _ _ _ _ _ (T45.setTop (mkF m 270 #[.val (.int p0), .val (.int p1), .val (.int p2), .val (.int p3), .val (.int p4), .val (.int p5), .val (.int (p0 &&& (15 : Int32))), .val (.int ((p0 &&& (15 : Int32)) + (p1 &&& (15 : Int32)))), .val (.int z1), .val (.int (p3 &&& (63 : Int32))), .val (.int (p4 &&& (63 : Int32))), .val (.int z5), .val (.int z9), .val (.int z18), .val (.ref b19), .val (.int (own_f7 (0 : Int32) (0 : Int32))), .val (.int (own_f7 (z5 &&& 1) (0 : Int32))), .val (.int z34), .val (.int (own_f7 (z9 &&& 1) (0 : Int32))), .val (.int z39)] [(.int (1 : Int32)), (.int z39)]))
                      refine own_go (fun _ k => XS.goto X45.here hx rfl (pc0 := 270) (pc' := 274) rfl (hb hby at_270) (by decide) (by decide) k) ?_
                      show own_Fin _ _ _ _ _ _ _ (T45.setTop (mkF m 274 #[.val (.int p0), .val (.int p1), .val (.int p2), .val (.int p3), .val (.int p4), .val (.int p5), .val (.int (p0 &&& (15 : Int32))), .val (.int ((p0 &&& (15 : Int32)) + (p1 &&& (15 : Int32)))), .val (.int z1), .val (.int (p3 &&& (63 : Int32))), .val (.int (p4 &&& (63 : Int32))), .val (.int z5), .val (.int z9), .val (.int z18), .val (.ref b19), .val (.int (own_f7 (0 : Int32) (0 : Int32))), .val (.int (own_f7 (z5 &&& 1) (0 : Int32))), .val (.int z34), .val (.int (own_f7 (z9 &&& 1) (0 : Int32))), .val (.int z39)] [(.int (1 : Int32)), (.int z39)]))
                      have kj := hk50 T45 _ (own_mono X45 (by decide) (by decide)) N45 e45
                      simpa only [if_neg hc49, if_neg hc51] using kj
                · refine own_go (fun _ k => XS.ifYes X45.here hx rfl (pc0 := 254) (pc' := 281) rfl (hb hby at_254) rfl ((if0 _ _).trans (feq hc48).2) (by decide) (by decide) k) ?_
                  show own_Fin _ _ _ _ _ _ _ (T45.setTop (mkF m 281 #[.val (.int p0), .val (.int p1), .val (.int p2), .val (.int p3), .val (.int p4), .val (.int p5), .val (.int (p0 &&& (15 : Int32))), .val (.int ((p0 &&& (15 : Int32)) + (p1 &&& (15 : Int32)))), .val (.int z1), .val (.int (p3 &&& (63 : Int32))), .val (.int (p4 &&& (63 : Int32))), .val (.int z5), .val (.int z9), .val (.int z18), .val (.ref b19), .val (.int (own_f7 (0 : Int32) (0 : Int32))), .val (.int (own_f7 (z5 &&& 1) (0 : Int32))), .val (.int z34), .val (.int (own_f7 (z9 &&& 1) (0 : Int32))), .val (.int z39)] []))
                  refine own_go (fun _ k => XS.iconst X45.here hx rfl (hb hby at_281) k) ?_
                  show own_Fin _ _ _ _ _ _ _ (T45.setTop (mkF m 282 #[.val (.int p0), .val (.int p1), .val (.int p2), .val (.int p3), .val (.int p4), .val (.int p5), .val (.int (p0 &&& (15 : Int32))), .val (.int ((p0 &&& (15 : Int32)) + (p1 &&& (15 : Int32)))), .val (.int z1), .val (.int (p3 &&& (63 : Int32))), .val (.int (p4 &&& (63 : Int32))), .val (.int z5), .val (.int z9), .val (.int z18), .val (.ref b19), .val (.int (own_f7 (0 : Int32) (0 : Int32))), .val (.int (own_f7 (z5 &&& 1) (0 : Int32))), .val (.int z34), .val (.int (own_f7 (z9 &&& 1) (0 : Int32))), .val (.int z39)] [(.int (0 : Int32))]))
                  refine own_ret X45 hx hlk Bd.returns rfl (Or.inl ⟨rfl, by simp, _, rfl⟩) (hb hby at_282) (Nat.le_of_ble_eq_true rfl) (Nat.le_of_ble_eq_true rfl) ?_
                  exact ⟨(own_lf_own_f0_3 (p0 := p0) (p1 := p1) (p2 := p2) (p3 := p3) (p4 := p4) (p5 := p5) (gB28 := gB28) hz1 hz5 hz9 hz18 hf21 hf22 hf23 hz34 hz46 hc40 hc41 hc47 hc48).trans (congrArg (fun z => some (Value.int z)) (own_plain p0 p1 p2 p3 p4 p5 gB28 (by have q := Pq28_23; rw [hf23, hf22, hf21, ← hz1] at q; exact q))), N45, trivial⟩
              · refine own_go (fun _ k => XS.icmpYes X45.here hx rfl (pc0 := 249) (pc' := 281) rfl (hb hby at_249) rfl (feq hc47).2 (by decide) (by decide) k) ?_
                show own_Fin _ _ _ _ _ _ _ (T45.setTop (mkF m 281 #[.val (.int p0), .val (.int p1), .val (.int p2), .val (.int p3), .val (.int p4), .val (.int p5), .val (.int (p0 &&& (15 : Int32))), .val (.int ((p0 &&& (15 : Int32)) + (p1 &&& (15 : Int32)))), .val (.int z1), .val (.int (p3 &&& (63 : Int32))), .val (.int (p4 &&& (63 : Int32))), .val (.int z5), .val (.int z9), .val (.int z18), .val (.ref b19), .val (.int (own_f7 (0 : Int32) (0 : Int32))), .val (.int (own_f7 (z5 &&& 1) (0 : Int32))), .val (.int z34), .val (.int (own_f7 (z9 &&& 1) (0 : Int32))), .val (.int z39)] []))
                refine own_go (fun _ k => XS.iconst X45.here hx rfl (hb hby at_281) k) ?_
                show own_Fin _ _ _ _ _ _ _ (T45.setTop (mkF m 282 #[.val (.int p0), .val (.int p1), .val (.int p2), .val (.int p3), .val (.int p4), .val (.int p5), .val (.int (p0 &&& (15 : Int32))), .val (.int ((p0 &&& (15 : Int32)) + (p1 &&& (15 : Int32)))), .val (.int z1), .val (.int (p3 &&& (63 : Int32))), .val (.int (p4 &&& (63 : Int32))), .val (.int z5), .val (.int z9), .val (.int z18), .val (.ref b19), .val (.int (own_f7 (0 : Int32) (0 : Int32))), .val (.int (own_f7 (z5 &&& 1) (0 : Int32))), .val (.int z34), .val (.int (own_f7 (z9 &&& 1) (0 : Int32))), .val (.int z39)] [(.int (0 : Int32))]))
                refine own_ret X45 hx hlk Bd.returns rfl (Or.inl ⟨rfl, by simp, _, rfl⟩) (hb hby at_282) (Nat.le_of_ble_eq_true rfl) (Nat.le_of_ble_eq_true rfl) ?_
                exact ⟨(own_lf_own_f0_4 (p0 := p0) (p1 := p1) (p2 := p2) (p3 := p3) (p4 := p4) (p5 := p5) (gB28 := gB28) hz1 hz5 hz18 hf21 hf22 hf23 hz34 hz46 hc40 hc41 hc47).trans (congrArg (fun z => some (Value.int z)) (own_plain p0 p1 p2 p3 p4 p5 gB28 (by have q := Pq28_23; rw [hf23, hf22, hf21, ← hz1] at q; exact q))), N45, trivial⟩
            by_cases hc42 : z5 = (0 : Int32)
            · refine own_go (fun _ k => XS.ifYes X38.here hx rfl (pc0 := 236) (pc' := 248) rfl (hb hby at_236) rfl ((if0 _ _).trans (teq hc42).1) (by decide) (by decide) k) ?_
              show own_Fin _ _ _ _ _ _ _ (T38.setTop (mkF m 248 #[.val (.int p0), .val (.int p1), .val (.int p2), .val (.int p3), .val (.int p4), .val (.int p5), .val (.int (p0 &&& (15 : Int32))), .val (.int ((p0 &&& (15 : Int32)) + (p1 &&& (15 : Int32)))), .val (.int z1), .val (.int (p3 &&& (63 : Int32))), .val (.int (p4 &&& (63 : Int32))), .val (.int z5), .val (.int z9), .val (.int z18), .val (.ref b19), .val (.int (own_f7 (0 : Int32) (0 : Int32))), .val (.int (own_f7 (z5 &&& 1) (0 : Int32))), .val (.int z34), .val (.int (own_f7 (z9 &&& 1) (0 : Int32))), .val (.int z39)] [(.int z34)]))
              refine own_go (fun _ k => XS.iconst X38.here hx rfl (hb hby at_248) k) ?_
              show own_Fin _ _ _ _ _ _ _ (T38.setTop (mkF m 249 #[.val (.int p0), .val (.int p1), .val (.int p2), .val (.int p3), .val (.int p4), .val (.int p5), .val (.int (p0 &&& (15 : Int32))), .val (.int ((p0 &&& (15 : Int32)) + (p1 &&& (15 : Int32)))), .val (.int z1), .val (.int (p3 &&& (63 : Int32))), .val (.int (p4 &&& (63 : Int32))), .val (.int z5), .val (.int z9), .val (.int z18), .val (.ref b19), .val (.int (own_f7 (0 : Int32) (0 : Int32))), .val (.int (own_f7 (z5 &&& 1) (0 : Int32))), .val (.int z34), .val (.int (own_f7 (z9 &&& 1) (0 : Int32))), .val (.int z39)] [(.int (0 : Int32)), (.int z34)]))
              have kj := hk43 T38 _ (own_mono X38 (by decide) (by decide)) N38 e38
              simpa only [if_pos hc42] using kj
            · refine own_go (fun _ k => XS.ifNo X38.here hx rfl (hb hby at_236) rfl ((if0 _ _).trans (feq hc42).1) k) ?_
              show own_Fin _ _ _ _ _ _ _ (T38.setTop (mkF m 239 #[.val (.int p0), .val (.int p1), .val (.int p2), .val (.int p3), .val (.int p4), .val (.int p5), .val (.int (p0 &&& (15 : Int32))), .val (.int ((p0 &&& (15 : Int32)) + (p1 &&& (15 : Int32)))), .val (.int z1), .val (.int (p3 &&& (63 : Int32))), .val (.int (p4 &&& (63 : Int32))), .val (.int z5), .val (.int z9), .val (.int z18), .val (.ref b19), .val (.int (own_f7 (0 : Int32) (0 : Int32))), .val (.int (own_f7 (z5 &&& 1) (0 : Int32))), .val (.int z34), .val (.int (own_f7 (z9 &&& 1) (0 : Int32))), .val (.int z39)] [(.int z34)]))
              refine own_go (fun _ k => XS.iload X38.here hx rfl (hb hby at_239) rfl k) ?_
              show own_Fin _ _ _ _ _ _ _ (T38.setTop (mkF m 241 #[.val (.int p0), .val (.int p1), .val (.int p2), .val (.int p3), .val (.int p4), .val (.int p5), .val (.int (p0 &&& (15 : Int32))), .val (.int ((p0 &&& (15 : Int32)) + (p1 &&& (15 : Int32)))), .val (.int z1), .val (.int (p3 &&& (63 : Int32))), .val (.int (p4 &&& (63 : Int32))), .val (.int z5), .val (.int z9), .val (.int z18), .val (.ref b19), .val (.int (own_f7 (0 : Int32) (0 : Int32))), .val (.int (own_f7 (z5 &&& 1) (0 : Int32))), .val (.int z34), .val (.int (own_f7 (z9 &&& 1) (0 : Int32))), .val (.int z39)] [(.int z18), (.int z34)]))
              by_cases hc44 : z18 = (0 : Int32)
              · refine own_go (fun _ k => XS.ifYes X38.here hx rfl (pc0 := 241) (pc' := 248) rfl (hb hby at_241) rfl ((if0 _ _).trans (teq hc44).1) (by decide) (by decide) k) ?_
                show own_Fin _ _ _ _ _ _ _ (T38.setTop (mkF m 248 #[.val (.int p0), .val (.int p1), .val (.int p2), .val (.int p3), .val (.int p4), .val (.int p5), .val (.int (p0 &&& (15 : Int32))), .val (.int ((p0 &&& (15 : Int32)) + (p1 &&& (15 : Int32)))), .val (.int z1), .val (.int (p3 &&& (63 : Int32))), .val (.int (p4 &&& (63 : Int32))), .val (.int z5), .val (.int z9), .val (.int z18), .val (.ref b19), .val (.int (own_f7 (0 : Int32) (0 : Int32))), .val (.int (own_f7 (z5 &&& 1) (0 : Int32))), .val (.int z34), .val (.int (own_f7 (z9 &&& 1) (0 : Int32))), .val (.int z39)] [(.int z34)]))
                refine own_go (fun _ k => XS.iconst X38.here hx rfl (hb hby at_248) k) ?_
                show own_Fin _ _ _ _ _ _ _ (T38.setTop (mkF m 249 #[.val (.int p0), .val (.int p1), .val (.int p2), .val (.int p3), .val (.int p4), .val (.int p5), .val (.int (p0 &&& (15 : Int32))), .val (.int ((p0 &&& (15 : Int32)) + (p1 &&& (15 : Int32)))), .val (.int z1), .val (.int (p3 &&& (63 : Int32))), .val (.int (p4 &&& (63 : Int32))), .val (.int z5), .val (.int z9), .val (.int z18), .val (.ref b19), .val (.int (own_f7 (0 : Int32) (0 : Int32))), .val (.int (own_f7 (z5 &&& 1) (0 : Int32))), .val (.int z34), .val (.int (own_f7 (z9 &&& 1) (0 : Int32))), .val (.int z39)] [(.int (0 : Int32)), (.int z34)]))
                have kj := hk43 T38 _ (own_mono X38 (by decide) (by decide)) N38 e38
                simpa only [if_neg hc42, if_pos hc44] using kj
              · refine own_go (fun _ k => XS.ifNo X38.here hx rfl (hb hby at_241) rfl ((if0 _ _).trans (feq hc44).1) k) ?_
                show own_Fin _ _ _ _ _ _ _ (T38.setTop (mkF m 244 #[.val (.int p0), .val (.int p1), .val (.int p2), .val (.int p3), .val (.int p4), .val (.int p5), .val (.int (p0 &&& (15 : Int32))), .val (.int ((p0 &&& (15 : Int32)) + (p1 &&& (15 : Int32)))), .val (.int z1), .val (.int (p3 &&& (63 : Int32))), .val (.int (p4 &&& (63 : Int32))), .val (.int z5), .val (.int z9), .val (.int z18), .val (.ref b19), .val (.int (own_f7 (0 : Int32) (0 : Int32))), .val (.int (own_f7 (z5 &&& 1) (0 : Int32))), .val (.int z34), .val (.int (own_f7 (z9 &&& 1) (0 : Int32))), .val (.int z39)] [(.int z34)]))
                refine own_go (fun _ k => XS.iconst X38.here hx rfl (hb hby at_244) k) ?_
                show own_Fin _ _ _ _ _ _ _ (T38.setTop (mkF m 245 #[.val (.int p0), .val (.int p1), .val (.int p2), .val (.int p3), .val (.int p4), .val (.int p5), .val (.int (p0 &&& (15 : Int32))), .val (.int ((p0 &&& (15 : Int32)) + (p1 &&& (15 : Int32)))), .val (.int z1), .val (.int (p3 &&& (63 : Int32))), .val (.int (p4 &&& (63 : Int32))), .val (.int z5), .val (.int z9), .val (.int z18), .val (.ref b19), .val (.int (own_f7 (0 : Int32) (0 : Int32))), .val (.int (own_f7 (z5 &&& 1) (0 : Int32))), .val (.int z34), .val (.int (own_f7 (z9 &&& 1) (0 : Int32))), .val (.int z39)] [(.int (1 : Int32)), (.int z34)]))
                refine own_go (fun _ k => XS.goto X38.here hx rfl (pc0 := 245) (pc' := 249) rfl (hb hby at_245) (by decide) (by decide) k) ?_
                show own_Fin _ _ _ _ _ _ _ (T38.setTop (mkF m 249 #[.val (.int p0), .val (.int p1), .val (.int p2), .val (.int p3), .val (.int p4), .val (.int p5), .val (.int (p0 &&& (15 : Int32))), .val (.int ((p0 &&& (15 : Int32)) + (p1 &&& (15 : Int32)))), .val (.int z1), .val (.int (p3 &&& (63 : Int32))), .val (.int (p4 &&& (63 : Int32))), .val (.int z5), .val (.int z9), .val (.int z18), .val (.ref b19), .val (.int (own_f7 (0 : Int32) (0 : Int32))), .val (.int (own_f7 (z5 &&& 1) (0 : Int32))), .val (.int z34), .val (.int (own_f7 (z9 &&& 1) (0 : Int32))), .val (.int z39)] [(.int (1 : Int32)), (.int z34)]))
                have kj := hk43 T38 _ (own_mono X38 (by decide) (by decide)) N38 e38
                simpa only [if_neg hc42, if_neg hc44] using kj
          · refine own_go (fun _ k => XS.ifYes X38.here hx rfl (pc0 := 229) (pc' := 281) rfl (hb hby at_229) rfl ((if0 _ _).trans (feq hc41).2) (by decide) (by decide) k) ?_
            show own_Fin _ _ _ _ _ _ _ (T38.setTop (mkF m 281 #[.val (.int p0), .val (.int p1), .val (.int p2), .val (.int p3), .val (.int p4), .val (.int p5), .val (.int (p0 &&& (15 : Int32))), .val (.int ((p0 &&& (15 : Int32)) + (p1 &&& (15 : Int32)))), .val (.int z1), .val (.int (p3 &&& (63 : Int32))), .val (.int (p4 &&& (63 : Int32))), .val (.int z5), .val (.int z9), .val (.int z18), .val (.ref b19), .val (.int (own_f7 (0 : Int32) (0 : Int32))), .val (.int (own_f7 (z5 &&& 1) (0 : Int32))), .val (.int z34), .val (.int (own_f7 (z9 &&& 1) (0 : Int32))), .val (.int z39)] []))
            refine own_go (fun _ k => XS.iconst X38.here hx rfl (hb hby at_281) k) ?_
            show own_Fin _ _ _ _ _ _ _ (T38.setTop (mkF m 282 #[.val (.int p0), .val (.int p1), .val (.int p2), .val (.int p3), .val (.int p4), .val (.int p5), .val (.int (p0 &&& (15 : Int32))), .val (.int ((p0 &&& (15 : Int32)) + (p1 &&& (15 : Int32)))), .val (.int z1), .val (.int (p3 &&& (63 : Int32))), .val (.int (p4 &&& (63 : Int32))), .val (.int z5), .val (.int z9), .val (.int z18), .val (.ref b19), .val (.int (own_f7 (0 : Int32) (0 : Int32))), .val (.int (own_f7 (z5 &&& 1) (0 : Int32))), .val (.int z34), .val (.int (own_f7 (z9 &&& 1) (0 : Int32))), .val (.int z39)] [(.int (0 : Int32))]))
            refine own_ret X38 hx hlk Bd.returns rfl (Or.inl ⟨rfl, by simp, _, rfl⟩) (hb hby at_282) (Nat.le_of_ble_eq_true rfl) (Nat.le_of_ble_eq_true rfl) ?_
            exact ⟨(own_lf_own_f0_5 (p0 := p0) (p1 := p1) (p2 := p2) (p3 := p3) (p4 := p4) (p5 := p5) (gB28 := gB28) hz5 hc40 hc41).trans (congrArg (fun z => some (Value.int z)) (own_plain p0 p1 p2 p3 p4 p5 gB28 (by have q := Pq28_23; rw [hf23, hf22, hf21, ← hz1] at q; exact q))), N38, trivial⟩
        · refine own_go (fun _ k => XS.ifYes X38.here hx rfl (pc0 := 224) (pc' := 281) rfl (hb hby at_224) rfl ((if0 _ _).trans (feq hc40).2) (by decide) (by decide) k) ?_
          show own_Fin _ _ _ _ _ _ _ (T38.setTop (mkF m 281 #[.val (.int p0), .val (.int p1), .val (.int p2), .val (.int p3), .val (.int p4), .val (.int p5), .val (.int (p0 &&& (15 : Int32))), .val (.int ((p0 &&& (15 : Int32)) + (p1 &&& (15 : Int32)))), .val (.int z1), .val (.int (p3 &&& (63 : Int32))), .val (.int (p4 &&& (63 : Int32))), .val (.int z5), .val (.int z9), .val (.int z18), .val (.ref b19), .val (.int (own_f7 (0 : Int32) (0 : Int32))), .val (.int (own_f7 (z5 &&& 1) (0 : Int32))), .val (.int z34), .val (.int (own_f7 (z9 &&& 1) (0 : Int32))), .val (.int z39)] []))
          refine own_go (fun _ k => XS.iconst X38.here hx rfl (hb hby at_281) k) ?_
          show own_Fin _ _ _ _ _ _ _ (T38.setTop (mkF m 282 #[.val (.int p0), .val (.int p1), .val (.int p2), .val (.int p3), .val (.int p4), .val (.int p5), .val (.int (p0 &&& (15 : Int32))), .val (.int ((p0 &&& (15 : Int32)) + (p1 &&& (15 : Int32)))), .val (.int z1), .val (.int (p3 &&& (63 : Int32))), .val (.int (p4 &&& (63 : Int32))), .val (.int z5), .val (.int z9), .val (.int z18), .val (.ref b19), .val (.int (own_f7 (0 : Int32) (0 : Int32))), .val (.int (own_f7 (z5 &&& 1) (0 : Int32))), .val (.int z34), .val (.int (own_f7 (z9 &&& 1) (0 : Int32))), .val (.int z39)] [(.int (0 : Int32))]))
          refine own_ret X38 hx hlk Bd.returns rfl (Or.inl ⟨rfl, by simp, _, rfl⟩) (hb hby at_282) (Nat.le_of_ble_eq_true rfl) (Nat.le_of_ble_eq_true rfl) ?_
          exact ⟨(own_lf_own_f0_6 (p0 := p0) (p1 := p1) (p2 := p2) (p3 := p3) (p4 := p4) (p5 := p5) (gB28 := gB28) hc40).trans (congrArg (fun z => some (Value.int z)) (own_plain p0 p1 p2 p3 p4 p5 gB28 (by have q := Pq28_23; rw [hf23, hf22, hf21, ← hz1] at q; exact q))), N38, trivial⟩
      by_cases hc11 : (own_f1 (p0 &&& (15 : Int32)) (p3 &&& (63 : Int32)) (p4 &&& (63 : Int32))) = (0 : Int32)
      · refine own_go (fun _ k => XS.ifNo X10.here hx rfl (hb hby at_74) rfl ((if0 _ _).trans (teq hc11).2) k) ?_
        show own_Fin _ _ _ _ _ _ _ (T10.setTop (mkF m 77 #[.val (.int p0), .val (.int p1), .val (.int p2), .val (.int p3), .val (.int p4), .val (.int p5), .val (.int (p0 &&& (15 : Int32))), .val (.int ((p0 &&& (15 : Int32)) + (p1 &&& (15 : Int32)))), .val (.int z1), .val (.int (p3 &&& (63 : Int32))), .val (.int (p4 &&& (63 : Int32))), .val (.int z5), .val (.int z9), .unset, .unset, .unset, .unset, .unset, .unset, .unset] []))
        refine own_go (fun _ k => XS.iload X10.here hx rfl (hb hby at_77) rfl k) ?_
        refine own_go (fun _ k => XS.iload X10.here hx rfl (hb hby at_79) rfl k) ?_
        refine own_go (fun _ k => XS.iload X10.here hx rfl (hb hby at_81) rfl k) ?_
        obtain ⟨_, _, ⟨T13, L13, k13, n13⟩, -, X13, ⟨Lc13, hQ13, l13, y13, z13⟩, st13⟩ := Jvm.LawKit.callS X10 hx (y := (⟨"com/example/reachability/reachability/CandidateListSatisfiedPinLaw", "in", "(III)Z"⟩ : MethodName)) hown (mvT hZ (hw _ (List.mem_of_getElem? (i := 0) rfl))) (mvT hZ (hw _ (List.mem_of_getElem? (i := 1) rfl))) (mvT hZ (hw _ (List.mem_of_getElem? (i := 2) rfl))) (mvT hZ (hw _ (List.mem_of_getElem? (i := 3) rfl))) (by decide) (backOf (W := 0) (rm1 l Z a0 hw [] ((p0 &&& (15 : Int32)) + (p1 &&& (15 : Int32))) (p3 &&& (63 : Int32)) (p4 &&& (63 : Int32)) h0 n0 Z0) hZ (hw _ (List.mem_of_getElem? (i := 3) rfl)) (hw _ (List.mem_of_getElem? (i := 2) rfl)) (by decide) (by decide)) (g := (mkF m 83 #[.val (.int p0), .val (.int p1), .val (.int p2), .val (.int p3), .val (.int p4), .val (.int p5), .val (.int (p0 &&& (15 : Int32))), .val (.int ((p0 &&& (15 : Int32)) + (p1 &&& (15 : Int32)))), .val (.int z1), .val (.int (p3 &&& (63 : Int32))), .val (.int (p4 &&& (63 : Int32))), .val (.int z5), .val (.int z9), .unset, .unset, .unset, .unset, .unset, .unset, .unset] [(.int (p4 &&& (63 : Int32))), (.int (p3 &&& (63 : Int32))), (.int ((p0 &&& (15 : Int32)) + (p1 &&& (15 : Int32))))])) rfl (by rw [hml]; rfl) (argsL := [(.int ((p0 &&& (15 : Int32)) + (p1 &&& (15 : Int32)))), (.int (p3 &&& (63 : Int32))), (.int (p4 &&& (63 : Int32)))]) (rest := []) (lenOf own_pd497 rfl) rfl (by show 2 * 0 + _ ≤ _; exact Nat.le_of_eq rfl) (hb hby at_83) (fun _ _ => ⟨rfl, e10, (by decide : 0 + 0 ≤ _), (by decide : 0 + 0 ≤ _)⟩)
        dsimp only [Pt.U, Pt.locs, Pt.cells, Pt.slots] at X13 l13 y13 z13 st13 hQ13
        replace y13 : 0 = k13 := y13.symm
        replace z13 : 0 = n13 := z13.symm
        subst y13 z13
        obtain ⟨rfl, N13q, e13⟩ := hQ13
        have N13 : Fr n0 L13 := by rw [l13]; exact Fr.app N10 N13q
        refine own_go (fun tg k => st13 tg k) ?_
        show own_Fin _ _ _ _ _ _ _ (T13.setTop (mkF m 86 #[.val (.int p0), .val (.int p1), .val (.int p2), .val (.int p3), .val (.int p4), .val (.int p5), .val (.int (p0 &&& (15 : Int32))), .val (.int ((p0 &&& (15 : Int32)) + (p1 &&& (15 : Int32)))), .val (.int z1), .val (.int (p3 &&& (63 : Int32))), .val (.int (p4 &&& (63 : Int32))), .val (.int z5), .val (.int z9), .unset, .unset, .unset, .unset, .unset, .unset, .unset] [(.int (own_f1 ((p0 &&& (15 : Int32)) + (p1 &&& (15 : Int32))) (p3 &&& (63 : Int32)) (p4 &&& (63 : Int32))))]))
        by_cases hc14 : (own_f1 ((p0 &&& (15 : Int32)) + (p1 &&& (15 : Int32))) (p3 &&& (63 : Int32)) (p4 &&& (63 : Int32))) = (0 : Int32)
        · refine own_go (fun _ k => XS.ifNo X13.here hx rfl (hb hby at_86) rfl ((if0 _ _).trans (teq hc14).2) k) ?_
          show own_Fin _ _ _ _ _ _ _ (T13.setTop (mkF m 89 #[.val (.int p0), .val (.int p1), .val (.int p2), .val (.int p3), .val (.int p4), .val (.int p5), .val (.int (p0 &&& (15 : Int32))), .val (.int ((p0 &&& (15 : Int32)) + (p1 &&& (15 : Int32)))), .val (.int z1), .val (.int (p3 &&& (63 : Int32))), .val (.int (p4 &&& (63 : Int32))), .val (.int z5), .val (.int z9), .unset, .unset, .unset, .unset, .unset, .unset, .unset] []))
          refine own_go (fun _ k => XS.iload X13.here hx rfl (hb hby at_89) rfl k) ?_
          refine own_go (fun _ k => XS.iload X13.here hx rfl (hb hby at_91) rfl k) ?_
          refine own_go (fun _ k => XS.iload X13.here hx rfl (hb hby at_93) rfl k) ?_
          obtain ⟨_, _, ⟨T15, L15, k15, n15⟩, -, X15, ⟨Lc15, hQ15, l15, y15, z15⟩, st15⟩ := Jvm.LawKit.callS X13 hx (y := (⟨"com/example/reachability/reachability/CandidateListSatisfiedPinLaw", "in", "(III)Z"⟩ : MethodName)) hown (mvT hZ (hw _ (List.mem_of_getElem? (i := 0) rfl))) (mvT hZ (hw _ (List.mem_of_getElem? (i := 1) rfl))) (mvT hZ (hw _ (List.mem_of_getElem? (i := 2) rfl))) (mvT hZ (hw _ (List.mem_of_getElem? (i := 3) rfl))) (by decide) (backOf (W := 0) (rm1 l Z a0 hw [] z1 (p3 &&& (63 : Int32)) (p4 &&& (63 : Int32)) h0 n0 Z0) hZ (hw _ (List.mem_of_getElem? (i := 3) rfl)) (hw _ (List.mem_of_getElem? (i := 2) rfl)) (by decide) (by decide)) (g := (mkF m 95 #[.val (.int p0), .val (.int p1), .val (.int p2), .val (.int p3), .val (.int p4), .val (.int p5), .val (.int (p0 &&& (15 : Int32))), .val (.int ((p0 &&& (15 : Int32)) + (p1 &&& (15 : Int32)))), .val (.int z1), .val (.int (p3 &&& (63 : Int32))), .val (.int (p4 &&& (63 : Int32))), .val (.int z5), .val (.int z9), .unset, .unset, .unset, .unset, .unset, .unset, .unset] [(.int (p4 &&& (63 : Int32))), (.int (p3 &&& (63 : Int32))), (.int z1)])) rfl (by rw [hml]; rfl) (argsL := [(.int z1), (.int (p3 &&& (63 : Int32))), (.int (p4 &&& (63 : Int32)))]) (rest := []) (lenOf own_pd497 rfl) rfl (by show 2 * 0 + _ ≤ _; exact Nat.le_of_eq rfl) (hb hby at_95) (fun _ _ => ⟨rfl, e13, (by decide : 0 + 0 ≤ _), (by decide : 0 + 0 ≤ _)⟩)
          dsimp only [Pt.U, Pt.locs, Pt.cells, Pt.slots] at X15 l15 y15 z15 st15 hQ15
          replace y15 : 0 = k15 := y15.symm
          replace z15 : 0 = n15 := z15.symm
          subst y15 z15
          obtain ⟨rfl, N15q, e15⟩ := hQ15
          have N15 : Fr n0 L15 := by rw [l15]; exact Fr.app N13 N15q
          refine own_go (fun tg k => st15 tg k) ?_
          show own_Fin _ _ _ _ _ _ _ (T15.setTop (mkF m 98 #[.val (.int p0), .val (.int p1), .val (.int p2), .val (.int p3), .val (.int p4), .val (.int p5), .val (.int (p0 &&& (15 : Int32))), .val (.int ((p0 &&& (15 : Int32)) + (p1 &&& (15 : Int32)))), .val (.int z1), .val (.int (p3 &&& (63 : Int32))), .val (.int (p4 &&& (63 : Int32))), .val (.int z5), .val (.int z9), .unset, .unset, .unset, .unset, .unset, .unset, .unset] [(.int (own_f1 z1 (p3 &&& (63 : Int32)) (p4 &&& (63 : Int32))))]))
          by_cases hc16 : (own_f1 z1 (p3 &&& (63 : Int32)) (p4 &&& (63 : Int32))) = (0 : Int32)
          · refine own_go (fun _ k => XS.ifYes X15.here hx rfl (pc0 := 98) (pc' := 105) rfl (hb hby at_98) rfl ((if0 _ _).trans (teq hc16).1) (by decide) (by decide) k) ?_
            show own_Fin _ _ _ _ _ _ _ (T15.setTop (mkF m 105 #[.val (.int p0), .val (.int p1), .val (.int p2), .val (.int p3), .val (.int p4), .val (.int p5), .val (.int (p0 &&& (15 : Int32))), .val (.int ((p0 &&& (15 : Int32)) + (p1 &&& (15 : Int32)))), .val (.int z1), .val (.int (p3 &&& (63 : Int32))), .val (.int (p4 &&& (63 : Int32))), .val (.int z5), .val (.int z9), .unset, .unset, .unset, .unset, .unset, .unset, .unset] []))
            refine own_go (fun _ k => XS.iconst X15.here hx rfl (hb hby at_105) k) ?_
            show own_Fin _ _ _ _ _ _ _ (T15.setTop (mkF m 106 #[.val (.int p0), .val (.int p1), .val (.int p2), .val (.int p3), .val (.int p4), .val (.int p5), .val (.int (p0 &&& (15 : Int32))), .val (.int ((p0 &&& (15 : Int32)) + (p1 &&& (15 : Int32)))), .val (.int z1), .val (.int (p3 &&& (63 : Int32))), .val (.int (p4 &&& (63 : Int32))), .val (.int z5), .val (.int z9), .unset, .unset, .unset, .unset, .unset, .unset, .unset] [(.int (0 : Int32))]))
            have kj := hk12 T15 _ (own_mono X15 (by decide) (by decide)) N15 e15
            simpa only [if_pos hc11, if_pos hc14, if_pos hc16] using kj
          · refine own_go (fun _ k => XS.ifNo X15.here hx rfl (hb hby at_98) rfl ((if0 _ _).trans (feq hc16).1) k) ?_
            show own_Fin _ _ _ _ _ _ _ (T15.setTop (mkF m 101 #[.val (.int p0), .val (.int p1), .val (.int p2), .val (.int p3), .val (.int p4), .val (.int p5), .val (.int (p0 &&& (15 : Int32))), .val (.int ((p0 &&& (15 : Int32)) + (p1 &&& (15 : Int32)))), .val (.int z1), .val (.int (p3 &&& (63 : Int32))), .val (.int (p4 &&& (63 : Int32))), .val (.int z5), .val (.int z9), .unset, .unset, .unset, .unset, .unset, .unset, .unset] []))
            refine own_go (fun _ k => XS.iconst X15.here hx rfl (hb hby at_101) k) ?_
            show own_Fin _ _ _ _ _ _ _ (T15.setTop (mkF m 102 #[.val (.int p0), .val (.int p1), .val (.int p2), .val (.int p3), .val (.int p4), .val (.int p5), .val (.int (p0 &&& (15 : Int32))), .val (.int ((p0 &&& (15 : Int32)) + (p1 &&& (15 : Int32)))), .val (.int z1), .val (.int (p3 &&& (63 : Int32))), .val (.int (p4 &&& (63 : Int32))), .val (.int z5), .val (.int z9), .unset, .unset, .unset, .unset, .unset, .unset, .unset] [(.int (1 : Int32))]))
            refine own_go (fun _ k => XS.goto X15.here hx rfl (pc0 := 102) (pc' := 106) rfl (hb hby at_102) (by decide) (by decide) k) ?_
            show own_Fin _ _ _ _ _ _ _ (T15.setTop (mkF m 106 #[.val (.int p0), .val (.int p1), .val (.int p2), .val (.int p3), .val (.int p4), .val (.int p5), .val (.int (p0 &&& (15 : Int32))), .val (.int ((p0 &&& (15 : Int32)) + (p1 &&& (15 : Int32)))), .val (.int z1), .val (.int (p3 &&& (63 : Int32))), .val (.int (p4 &&& (63 : Int32))), .val (.int z5), .val (.int z9), .unset, .unset, .unset, .unset, .unset, .unset, .unset] [(.int (1 : Int32))]))
            have kj := hk12 T15 _ (own_mono X15 (by decide) (by decide)) N15 e15
            simpa only [if_pos hc11, if_pos hc14, if_neg hc16] using kj
        · refine own_go (fun _ k => XS.ifYes X13.here hx rfl (pc0 := 86) (pc' := 101) rfl (hb hby at_86) rfl ((if0 _ _).trans (feq hc14).2) (by decide) (by decide) k) ?_
          show own_Fin _ _ _ _ _ _ _ (T13.setTop (mkF m 101 #[.val (.int p0), .val (.int p1), .val (.int p2), .val (.int p3), .val (.int p4), .val (.int p5), .val (.int (p0 &&& (15 : Int32))), .val (.int ((p0 &&& (15 : Int32)) + (p1 &&& (15 : Int32)))), .val (.int z1), .val (.int (p3 &&& (63 : Int32))), .val (.int (p4 &&& (63 : Int32))), .val (.int z5), .val (.int z9), .unset, .unset, .unset, .unset, .unset, .unset, .unset] []))
          refine own_go (fun _ k => XS.iconst X13.here hx rfl (hb hby at_101) k) ?_
          show own_Fin _ _ _ _ _ _ _ (T13.setTop (mkF m 102 #[.val (.int p0), .val (.int p1), .val (.int p2), .val (.int p3), .val (.int p4), .val (.int p5), .val (.int (p0 &&& (15 : Int32))), .val (.int ((p0 &&& (15 : Int32)) + (p1 &&& (15 : Int32)))), .val (.int z1), .val (.int (p3 &&& (63 : Int32))), .val (.int (p4 &&& (63 : Int32))), .val (.int z5), .val (.int z9), .unset, .unset, .unset, .unset, .unset, .unset, .unset] [(.int (1 : Int32))]))
          refine own_go (fun _ k => XS.goto X13.here hx rfl (pc0 := 102) (pc' := 106) rfl (hb hby at_102) (by decide) (by decide) k) ?_
          show own_Fin _ _ _ _ _ _ _ (T13.setTop (mkF m 106 #[.val (.int p0), .val (.int p1), .val (.int p2), .val (.int p3), .val (.int p4), .val (.int p5), .val (.int (p0 &&& (15 : Int32))), .val (.int ((p0 &&& (15 : Int32)) + (p1 &&& (15 : Int32)))), .val (.int z1), .val (.int (p3 &&& (63 : Int32))), .val (.int (p4 &&& (63 : Int32))), .val (.int z5), .val (.int z9), .unset, .unset, .unset, .unset, .unset, .unset, .unset] [(.int (1 : Int32))]))
          have kj := hk12 T13 _ (own_mono X13 (by decide) (by decide)) N13 e13
          simpa only [if_pos hc11, if_neg hc14] using kj
      · refine own_go (fun _ k => XS.ifYes X10.here hx rfl (pc0 := 74) (pc' := 101) rfl (hb hby at_74) rfl ((if0 _ _).trans (feq hc11).2) (by decide) (by decide) k) ?_
        show own_Fin _ _ _ _ _ _ _ (T10.setTop (mkF m 101 #[.val (.int p0), .val (.int p1), .val (.int p2), .val (.int p3), .val (.int p4), .val (.int p5), .val (.int (p0 &&& (15 : Int32))), .val (.int ((p0 &&& (15 : Int32)) + (p1 &&& (15 : Int32)))), .val (.int z1), .val (.int (p3 &&& (63 : Int32))), .val (.int (p4 &&& (63 : Int32))), .val (.int z5), .val (.int z9), .unset, .unset, .unset, .unset, .unset, .unset, .unset] []))
        refine own_go (fun _ k => XS.iconst X10.here hx rfl (hb hby at_101) k) ?_
        show own_Fin _ _ _ _ _ _ _ (T10.setTop (mkF m 102 #[.val (.int p0), .val (.int p1), .val (.int p2), .val (.int p3), .val (.int p4), .val (.int p5), .val (.int (p0 &&& (15 : Int32))), .val (.int ((p0 &&& (15 : Int32)) + (p1 &&& (15 : Int32)))), .val (.int z1), .val (.int (p3 &&& (63 : Int32))), .val (.int (p4 &&& (63 : Int32))), .val (.int z5), .val (.int z9), .unset, .unset, .unset, .unset, .unset, .unset, .unset] [(.int (1 : Int32))]))
        refine own_go (fun _ k => XS.goto X10.here hx rfl (pc0 := 102) (pc' := 106) rfl (hb hby at_102) (by decide) (by decide) k) ?_
        show own_Fin _ _ _ _ _ _ _ (T10.setTop (mkF m 106 #[.val (.int p0), .val (.int p1), .val (.int p2), .val (.int p3), .val (.int p4), .val (.int p5), .val (.int (p0 &&& (15 : Int32))), .val (.int ((p0 &&& (15 : Int32)) + (p1 &&& (15 : Int32)))), .val (.int z1), .val (.int (p3 &&& (63 : Int32))), .val (.int (p4 &&& (63 : Int32))), .val (.int z5), .val (.int z9), .unset, .unset, .unset, .unset, .unset, .unset, .unset] [(.int (1 : Int32))]))
        have kj := hk12 T10 _ (own_mono X10 (by decide) (by decide)) N10 e10
        simpa only [if_neg hc11] using kj
    by_cases hc6 : (p5 &&& (2 : Int32)) = (0 : Int32)
    · refine own_go (fun _ k => XS.ifYes X4.here hx rfl (pc0 := 55) (pc' := 62) rfl (hb hby at_55) rfl ((if0 _ _).trans (teq hc6).1) (by decide) (by decide) k) ?_
      show own_Fin _ _ _ _ _ _ _ (T4.setTop (mkF m 62 #[.val (.int p0), .val (.int p1), .val (.int p2), .val (.int p3), .val (.int p4), .val (.int p5), .val (.int (p0 &&& (15 : Int32))), .val (.int ((p0 &&& (15 : Int32)) + (p1 &&& (15 : Int32)))), .val (.int z1), .val (.int (p3 &&& (63 : Int32))), .val (.int (p4 &&& (63 : Int32))), .val (.int z5), .unset, .unset, .unset, .unset, .unset, .unset, .unset, .unset] []))
      refine own_go (fun _ k => XS.iconst X4.here hx rfl (hb hby at_62) k) ?_
      show own_Fin _ _ _ _ _ _ _ (T4.setTop (mkF m 63 #[.val (.int p0), .val (.int p1), .val (.int p2), .val (.int p3), .val (.int p4), .val (.int p5), .val (.int (p0 &&& (15 : Int32))), .val (.int ((p0 &&& (15 : Int32)) + (p1 &&& (15 : Int32)))), .val (.int z1), .val (.int (p3 &&& (63 : Int32))), .val (.int (p4 &&& (63 : Int32))), .val (.int z5), .unset, .unset, .unset, .unset, .unset, .unset, .unset, .unset] [(.int (0 : Int32))]))
      have kj := hk7 T4 _ (own_mono X4 (by decide) (by decide)) N4 e4
      simpa only [if_pos hc6] using kj
    · refine own_go (fun _ k => XS.ifNo X4.here hx rfl (hb hby at_55) rfl ((if0 _ _).trans (feq hc6).1) k) ?_
      show own_Fin _ _ _ _ _ _ _ (T4.setTop (mkF m 58 #[.val (.int p0), .val (.int p1), .val (.int p2), .val (.int p3), .val (.int p4), .val (.int p5), .val (.int (p0 &&& (15 : Int32))), .val (.int ((p0 &&& (15 : Int32)) + (p1 &&& (15 : Int32)))), .val (.int z1), .val (.int (p3 &&& (63 : Int32))), .val (.int (p4 &&& (63 : Int32))), .val (.int z5), .unset, .unset, .unset, .unset, .unset, .unset, .unset, .unset] []))
      refine own_go (fun _ k => XS.iconst X4.here hx rfl (hb hby at_58) k) ?_
      show own_Fin _ _ _ _ _ _ _ (T4.setTop (mkF m 59 #[.val (.int p0), .val (.int p1), .val (.int p2), .val (.int p3), .val (.int p4), .val (.int p5), .val (.int (p0 &&& (15 : Int32))), .val (.int ((p0 &&& (15 : Int32)) + (p1 &&& (15 : Int32)))), .val (.int z1), .val (.int (p3 &&& (63 : Int32))), .val (.int (p4 &&& (63 : Int32))), .val (.int z5), .unset, .unset, .unset, .unset, .unset, .unset, .unset, .unset] [(.int (1 : Int32))]))
      refine own_go (fun _ k => XS.goto X4.here hx rfl (pc0 := 59) (pc' := 63) rfl (hb hby at_59) (by decide) (by decide) k) ?_
      show own_Fin _ _ _ _ _ _ _ (T4.setTop (mkF m 63 #[.val (.int p0), .val (.int p1), .val (.int p2), .val (.int p3), .val (.int p4), .val (.int p5), .val (.int (p0 &&& (15 : Int32))), .val (.int ((p0 &&& (15 : Int32)) + (p1 &&& (15 : Int32)))), .val (.int z1), .val (.int (p3 &&& (63 : Int32))), .val (.int (p4 &&& (63 : Int32))), .val (.int z5), .unset, .unset, .unset, .unset, .unset, .unset, .unset, .unset] [(.int (1 : Int32))]))
      have kj := hk7 T4 _ (own_mono X4 (by decide) (by decide)) N4 e4
      simpa only [if_neg hc6] using kj
  by_cases hc2 : (p5 &&& (1 : Int32)) = (0 : Int32)
  · refine own_go (fun _ k => XS.ifYes X0.here hx rfl (pc0 := 41) (pc' := 48) rfl (hb hby at_41) rfl ((if0 _ _).trans (teq hc2).1) (by decide) (by decide) k) ?_
    show own_Fin _ _ _ _ _ _ _ (s₁.setTop (mkF m 48 #[.val (.int p0), .val (.int p1), .val (.int p2), .val (.int p3), .val (.int p4), .val (.int p5), .val (.int (p0 &&& (15 : Int32))), .val (.int ((p0 &&& (15 : Int32)) + (p1 &&& (15 : Int32)))), .val (.int z1), .val (.int (p3 &&& (63 : Int32))), .val (.int (p4 &&& (63 : Int32))), .unset, .unset, .unset, .unset, .unset, .unset, .unset, .unset, .unset] []))
    refine own_go (fun _ k => XS.iconst X0.here hx rfl (hb hby at_48) k) ?_
    show own_Fin _ _ _ _ _ _ _ (s₁.setTop (mkF m 49 #[.val (.int p0), .val (.int p1), .val (.int p2), .val (.int p3), .val (.int p4), .val (.int p5), .val (.int (p0 &&& (15 : Int32))), .val (.int ((p0 &&& (15 : Int32)) + (p1 &&& (15 : Int32)))), .val (.int z1), .val (.int (p3 &&& (63 : Int32))), .val (.int (p4 &&& (63 : Int32))), .unset, .unset, .unset, .unset, .unset, .unset, .unset, .unset, .unset] [(.int (0 : Int32))]))
    have kj := hk3 s₁ _ (own_mono X0 (by decide) (by decide)) N0 e0
    simpa only [if_pos hc2] using kj
  · refine own_go (fun _ k => XS.ifNo X0.here hx rfl (hb hby at_41) rfl ((if0 _ _).trans (feq hc2).1) k) ?_
    show own_Fin _ _ _ _ _ _ _ (s₁.setTop (mkF m 44 #[.val (.int p0), .val (.int p1), .val (.int p2), .val (.int p3), .val (.int p4), .val (.int p5), .val (.int (p0 &&& (15 : Int32))), .val (.int ((p0 &&& (15 : Int32)) + (p1 &&& (15 : Int32)))), .val (.int z1), .val (.int (p3 &&& (63 : Int32))), .val (.int (p4 &&& (63 : Int32))), .unset, .unset, .unset, .unset, .unset, .unset, .unset, .unset, .unset] []))
    refine own_go (fun _ k => XS.iconst X0.here hx rfl (hb hby at_44) k) ?_
    show own_Fin _ _ _ _ _ _ _ (s₁.setTop (mkF m 45 #[.val (.int p0), .val (.int p1), .val (.int p2), .val (.int p3), .val (.int p4), .val (.int p5), .val (.int (p0 &&& (15 : Int32))), .val (.int ((p0 &&& (15 : Int32)) + (p1 &&& (15 : Int32)))), .val (.int z1), .val (.int (p3 &&& (63 : Int32))), .val (.int (p4 &&& (63 : Int32))), .unset, .unset, .unset, .unset, .unset, .unset, .unset, .unset, .unset] [(.int (1 : Int32))]))
    refine own_go (fun _ k => XS.goto X0.here hx rfl (pc0 := 45) (pc' := 49) rfl (hb hby at_45) (by decide) (by decide) k) ?_
    show own_Fin _ _ _ _ _ _ _ (s₁.setTop (mkF m 49 #[.val (.int p0), .val (.int p1), .val (.int p2), .val (.int p3), .val (.int p4), .val (.int p5), .val (.int (p0 &&& (15 : Int32))), .val (.int ((p0 &&& (15 : Int32)) + (p1 &&& (15 : Int32)))), .val (.int z1), .val (.int (p3 &&& (63 : Int32))), .val (.int (p4 &&& (63 : Int32))), .unset, .unset, .unset, .unset, .unset, .unset, .unset, .unset, .unset] [(.int (1 : Int32))]))
    have kj := hk3 s₁ _ (own_mono X0 (by decide) (by decide)) N0 e0
    simpa only [if_neg hc2] using kj
set_option maxRecDepth 65536 in
set_option maxHeartbeats 40000000 in
theorem comes_1 {Post : Tables → Env → Array Value → State → Outcome → State → Prop} (hpost : ∀ tb e args s v u, (limb_1_1.after args s (.returned v) u = true ∧ limb_1_2.after args s (.returned v) u = true ∧ True) → FrameEnd s (.returned v) u (Jvm.fieldLocs frame_1_writes args s ++ Jvm.arrayLocs frame_1_arrays args s ++ Jvm.staticLocs frame_1_statics s) 24 192 → Post tb e args s (.returned v) u) :
    ArmFor flags0 classFile x code maxLocals ret World_1 tables_1 room_1 Calls_1 rest_1 Pre_1 Post := by
  intro l hfl _ _ p e ha hc hk s m args below hf hA hF happ hP
  obtain ⟨hcalls, hrest, hpre⟩ := hP
  obtain ⟨-, -, -, hnamed, -, -, -, hat⟩ := (Spec.applies_iff hf).mp happ
  obtain ⟨hg, hn⟩ := and_e (Cond.before_iff.mp (show (Jvm.Cond.and given_1 narrow_1).before args s = true from hpre))
  obtain ⟨g1, g2⟩ := and_e hg
  obtain ⟨g3, g4⟩ := and_e g2
  obtain ⟨g5, g6⟩ := and_e g4
  obtain ⟨g7, g8⟩ := and_e g6
  obtain ⟨g9, g10⟩ := and_e g8
  obtain ⟨g11, g12⟩ := and_e g10
  obtain ⟨w0, w1, w2, w3, w4, w5, rfl⟩ : ∃ w0 w1 w2 w3 w4 w5 : Value, args = #[w0, w1, w2, w3, w4, w5] := by
    have hs : args.size = 6 := by simpa [Cond.value, given_1] using g1
    obtain ⟨L⟩ := args
    match L, hs with
    | [w0, w1, w2, w3, w4, w5], _ => exact ⟨w0, w1, w2, w3, w4, w5, rfl⟩
  have hw := fun d (hd : d ∈ tables_1) => atoms_spec (ws := Jvm.Cond.code x code maxLocals ret :: tables_1) hat d (List.mem_cons_of_mem _ hd)
  have hfit : Fit s := fun {y c} hc i hi => by
    obtain ⟨ha, rfl⟩ := Array.getElem?_eq_some_iff.mp hc
    have q := List.all_eq_true.mp ((Array.all_eq_true_iff_forall_mem.mp hF) _ (Array.getElem_mem ha)) i (List.mem_range.mpr hi)
    simpa [Array.getElem?_eq_getElem hi] using q
  obtain ⟨i0, ei0⟩ := is_v g3
  obtain rfl : w0 = (.int i0) := Option.some.inj ei0
  obtain ⟨i1, ei1⟩ := is_v g5
  obtain rfl : w1 = (.int i1) := Option.some.inj ei1
  obtain ⟨i2, ei2⟩ := is_v g7
  obtain rfl : w2 = (.int i2) := Option.some.inj ei2
  obtain ⟨i3, ei3⟩ := is_v g9
  obtain rfl : w3 = (.int i3) := Option.some.inj ei3
  obtain ⟨i4, ei4⟩ := is_v g11
  obtain rfl : w4 = (.int i4) := Option.some.inj ei4
  obtain ⟨i5, ei5⟩ := is_v g12
  obtain rfl : w5 = (.int i5) := Option.some.inj ei5
  obtain ⟨n, o, h1, h2, h3, _, L, rfl, ⟨rfl, N, hrest'⟩, hq⟩ := rm0 l s _ hw tables_1 i0 i1 i2 i3 i4 i5 s.heap s.heap.size (Nat.le_refl _) p e ha hc hk s m _ below hf ((Spec.applies_iff_loose hf).mp happ).1 ⟨rfl, State.Warmed39.refl s, rfl⟩ trivial
  refine ⟨n, _, h1, h2, h3, hpost _ _ _ _ _ _ ⟨Cond.after_iff.mpr rfl, Cond.after_iff.mpr (eq_i res_at (Term.int_eval (1)) rfl), trivial⟩ ⟨hq.1, hq.2.1, (hq.2.2.sift fun y hy => Or.inr (N y hy)).mono (by decide) (by decide)⟩⟩
theorem main_1_1 : Claimed_1_1 := comes_1 fun _ _ _ _ _ _ h hF => ⟨h.1, hF⟩
theorem main_1_2 : Claimed_1_2 := comes_1 fun _ _ _ _ _ _ h hF => ⟨h.2.1, hF⟩
end Jvm.Pilot.@@N@@
namespace Jvm.Pilot.@@N@@
open Jvm Jvm.ClassFile Sem Op Lib Jvm.Free Jvm.Stand Jvm.Pilot.@@N@@.Jvm.D
/-! MADE BY PROGRAM (witnessworld.py) out of the Statement's table words and the real class files: 10 classes; the members and pool entries that the words name. The judged class is class 1, her method 2. -/
namespace start1
open Jvm.ClassFile
def u (s : String) : CpInfo := .utf8 (stringToUtf16 s)
/-- a pool by its gaps: so many unusable entries, then the entry; so many at the end -/
def gap : Nat → List CpInfo → List CpInfo
  | 0, r => r
  | n + 1, r => .unusable :: gap n r
def poolList (es : List (Nat × CpInfo)) (last : Nat) : List CpInfo := es.foldr (fun e r => gap e.1 (e.2 :: r)) (gap last [])
def pool (es : List (Nat × CpInfo)) (last : Nat) : Array CpInfo := ⟨poolList es last⟩
def fileOf (pool : Array CpInfo) (this : Nat) (attrs : Array Attribute := #[]) (ms : Array MethodInfo := #[]) (fl : Nat := 33) (sup : Nat := 0) (ifs : Array Nat := #[]) (fds : Array FieldInfo := #[]) : ClassFile where
  minorVersion := 0
  majorVersion := 65
  constantPool := pool
  accessFlags := fl
  thisClass := this
  superClass := sup
  interfaces := ifs
  fields := fds
  methods := ms
  attributes := attrs
def plain (name : String) (sup : Option ClassId) : Class where
  name := name
  kind := .ordinary
  loader := none
  accessFlags := 33
  super := sup
  interfaces := #[]
  cf := none
  fields := #[]
  methods := #[]
  instanceTypes := #[]
  staticTypes := #[]
  resolved := #[]
  callSites := []
  init := .initialized
  statics := none
  mirror := none

def pool0 : Array CpInfo := pool [(5, u "<init>"), (0, u "()V"), (1, .class_ 10), (1, u "java/lang/Object")] 113

def k0c0 : Code := { maxStack := 0, maxLocals := 1, code := object_method_1_code, exceptionTable := #[], attributes := #[] }
def k0m0 : Method := { name := "<init>", desc := "()V", sig := { parameters := [], returnType := none }, accessFlags := 1, code := some k0c0 }
/-- java/lang/Object -/
def k0 : Class := { plain "java/lang/Object" none with
  accessFlags := 33
  interfaces := #[]
  cf := some (fileOf pool0 8 #[] #[{ accessFlags := 1, nameIndex := 5, descriptorIndex := 6, attributes := #[] }] 33 0 #[] #[])
  fields := #[]
  methods := #[k0m0]
  instanceTypes := #[]
  staticTypes := #[]
  resolved := Array.replicate 124 none
  statics := none }

def pool1 : Array CpInfo := pool [(2, .class_ 4), (1, u "java/lang/Object"), (0, u "<init>"), (0, u "()V"), (0, .methodref 8 9), (0, .class_ 10), (0, .nameAndType 11 12), (0, u "com/example/reachability/reachability/CandidateListSatisfiedPinLaw"), (0, u "in"), (0, u "(III)Z"), (0, .class_ 14), (0, u "com/example/reachability/reachability/CandidateList"), (0, .methodref 13 16), (0, .nameAndType 5 17), (0, u "([I[I)V"), (0, .methodref 13 19), (0, .nameAndType 20 21), (0, u "satisfied"), (0, u "()Z"), (0, .methodref 13 23), (0, .nameAndType 24 25), (0, u "reset"), (0, u "(Z)V"), (0, .methodref 13 27), (0, .nameAndType 28 29), (0, u "find"), (0, u "(II)I"), (3, u "law"), (0, u "(IIIIII)Z")] 2

def k1m0 : Method := { name := "<init>", desc := "()V", sig := { parameters := [], returnType := none }, accessFlags := 1, code := none }
def k1c1 : Code := { maxStack := 2, maxLocals := 3, code := method_2_code, exceptionTable := #[], attributes := #[] }
def k1m1 : Method := { name := "in", desc := "(III)Z", sig := { parameters := [.int, .int, .int], returnType := some .boolean }, accessFlags := 10, code := some k1c1 }
def k1c2 : Code := { maxStack := 7, maxLocals := 20, code := code, exceptionTable := #[], attributes := #[] }
def k1m2 : Method := { name := "law", desc := "(IIIIII)Z", sig := { parameters := [.int, .int, .int, .int, .int, .int], returnType := some .boolean }, accessFlags := 9, code := some k1c2 }
/-- com/example/reachability/reachability/CandidateListSatisfiedPinLaw -/
def k1 : Class := { plain "com/example/reachability/reachability/CandidateListSatisfiedPinLaw" (some 0) with
  accessFlags := 49
  interfaces := #[]
  cf := some (fileOf pool1 8 #[] #[{ accessFlags := 1, nameIndex := 5, descriptorIndex := 6, attributes := #[] }, { accessFlags := 10, nameIndex := 11, descriptorIndex := 12, attributes := #[] }, { accessFlags := 9, nameIndex := 33, descriptorIndex := 34, attributes := #[] }] 49 2 #[] #[])
  fields := #[]
  methods := #[k1m0, k1m1, k1m2]
  instanceTypes := #[]
  staticTypes := #[]
  resolved := Array.replicate 37 none
  statics := none }

def pool2 : Array CpInfo := pool [(1, .methodref 2 3), (0, .class_ 4), (0, .nameAndType 5 6), (0, u "java/lang/Object"), (0, u "<init>"), (0, u "()V"), (0, .fieldref 8 9), (0, .class_ 10), (0, .nameAndType 11 12), (0, u "com/example/reachability/reachability/CandidateList"), (0, u "search"), (0, u "I"), (0, .fieldref 8 14), (0, .nameAndType 15 16), (0, u "runs"), (0, u "[I"), (0, .fieldref 8 18), (0, .nameAndType 19 16), (0, u "numbers"), (0, .fieldref 8 21), (0, .nameAndType 22 16), (0, u "elements"), (0, .fieldref 8 24), (0, .nameAndType 25 16), (0, u "foundIn"), (0, .fieldref 8 27), (0, .nameAndType 28 16), (0, u "next"), (0, .fieldref 8 30), (0, .nameAndType 31 16), (0, u "found"), (0, .methodref 8 33), (0, .nameAndType 34 35), (0, u "bucketShift"), (0, u "([I)I"), (0, .fieldref 8 37), (0, .nameAndType 34 12), (0, .methodref 8 39), (0, .nameAndType 40 41), (0, u "bucketStarts"), (0, u "([II)[I"), (0, .fieldref 8 43), (0, .nameAndType 44 16), (0, u "bucketStart"), (0, .methodref 46 47), (0, .class_ 48), (0, .nameAndType 49 50), (0, u "java/lang/Math"), (0, u "max"), (0, u "(II)I"), (2, .integer 2147483647), (6, .fieldref 8 61), (0, .nameAndType 62 12), (0, u "foundCount"), (0, .fieldref 8 64), (0, .nameAndType 65 66), (0, u "firstOnly"), (0, u "Z"), (0, .fieldref 8 68), (0, .nameAndType 69 66), (0, u "forRuns"), (0, .fieldref 8 71), (0, .nameAndType 72 12), (0, u "runsLength"), (2, u "reset"), (0, u "(Z)V"), (3, u "(I)I"), (0, .methodref 8 82), (0, .nameAndType 83 80), (0, u "first"), (0, .methodref 8 85), (0, .nameAndType 86 80), (0, u "open"), (0, .methodref 8 88), (0, .nameAndType 89 80), (0, u "numberOf"), (0, .methodref 8 91), (0, .nameAndType 92 93), (0, u "satisfied"), (0, u "()Z"), (2, u "find"), (3, .methodref 8 101), (0, .nameAndType 102 103), (0, u "firstAtLeast"), (0, u "([IIII)I"), (0, u "([I[I)V")] 17

def k2c0 : Code := { maxStack := 3, maxLocals := 3, code := prog_2_method_1_code, exceptionTable := #[], attributes := #[] }
def k2m0 : Method := { name := "<init>", desc := "([I[I)V", sig := { parameters := [(.array .int), (.array .int)], returnType := none }, accessFlags := 0, code := some k2c0 }
def k2c1 : Code := { maxStack := 3, maxLocals := 3, code := prog_2_method_2_code, exceptionTable := #[], attributes := #[] }
def k2m1 : Method := { name := "bucketShift", desc := "([I)I", sig := { parameters := [(.array .int)], returnType := some .int }, accessFlags := 10, code := some k2c1 }
def k2c2 : Code := { maxStack := 6, maxLocals := 8, code := prog_2_method_3_code, exceptionTable := #[], attributes := #[] }
def k2m2 : Method := { name := "bucketStarts", desc := "([II)[I", sig := { parameters := [(.array .int), .int], returnType := some (.array .int) }, accessFlags := 10, code := some k2c2 }
def k2c3 : Code := { maxStack := 3, maxLocals := 2, code := prog_2_method_7_code, exceptionTable := #[], attributes := #[] }
def k2m3 : Method := { name := "reset", desc := "(Z)V", sig := { parameters := [.boolean], returnType := none }, accessFlags := 0, code := some k2c3 }
def k2c4 : Code := { maxStack := 1, maxLocals := 1, code := prog_2_method_9_code, exceptionTable := #[], attributes := #[] }
def k2m4 : Method := { name := "satisfied", desc := "()Z", sig := { parameters := [], returnType := some .boolean }, accessFlags := 0, code := some k2c4 }
def k2c5 : Code := { maxStack := 5, maxLocals := 5, code := prog_2_method_12_code, exceptionTable := #[], attributes := #[] }
def k2m5 : Method := { name := "find", desc := "(II)I", sig := { parameters := [.int, .int], returnType := some .int }, accessFlags := 0, code := some k2c5 }
def k2c6 : Code := { maxStack := 2, maxLocals := 2, code := prog_2_method_18_code, exceptionTable := #[], attributes := #[] }
def k2m6 : Method := { name := "numberOf", desc := "(I)I", sig := { parameters := [.int], returnType := some .int }, accessFlags := 2, code := some k2c6 }
def k2c7 : Code := { maxStack := 5, maxLocals := 3, code := prog_2_method_19_code, exceptionTable := #[], attributes := #[] }
def k2m7 : Method := { name := "first", desc := "(I)I", sig := { parameters := [.int], returnType := some .int }, accessFlags := 0, code := some k2c7 }
def k2c8 : Code := { maxStack := 2, maxLocals := 7, code := prog_2_method_20_code, exceptionTable := #[], attributes := #[] }
def k2m8 : Method := { name := "firstAtLeast", desc := "([IIII)I", sig := { parameters := [(.array .int), .int, .int, .int], returnType := some .int }, accessFlags := 8, code := some k2c8 }
def k2c9 : Code := { maxStack := 3, maxLocals := 5, code := prog_2_method_21_code, exceptionTable := #[], attributes := #[] }
def k2m9 : Method := { name := "open", desc := "(I)I", sig := { parameters := [.int], returnType := some .int }, accessFlags := 2, code := some k2c9 }
/-- com/example/reachability/reachability/CandidateList -/
def k2 : Class := { plain "com/example/reachability/reachability/CandidateList" (some 0) with
  accessFlags := 32
  interfaces := #[]
  cf := some (fileOf pool2 8 #[] #[{ accessFlags := 0, nameIndex := 5, descriptorIndex := 104, attributes := #[] }, { accessFlags := 10, nameIndex := 34, descriptorIndex := 35, attributes := #[] }, { accessFlags := 10, nameIndex := 40, descriptorIndex := 41, attributes := #[] }, { accessFlags := 0, nameIndex := 75, descriptorIndex := 76, attributes := #[] }, { accessFlags := 0, nameIndex := 92, descriptorIndex := 93, attributes := #[] }, { accessFlags := 0, nameIndex := 96, descriptorIndex := 50, attributes := #[] }, { accessFlags := 2, nameIndex := 89, descriptorIndex := 80, attributes := #[] }, { accessFlags := 0, nameIndex := 83, descriptorIndex := 80, attributes := #[] }, { accessFlags := 8, nameIndex := 102, descriptorIndex := 103, attributes := #[] }, { accessFlags := 2, nameIndex := 86, descriptorIndex := 80, attributes := #[] }] 32 2 #[] #[{ accessFlags := 18, nameIndex := 19, descriptorIndex := 16, attributes := #[] }, { accessFlags := 18, nameIndex := 22, descriptorIndex := 16, attributes := #[] }, { accessFlags := 18, nameIndex := 34, descriptorIndex := 12, attributes := #[] }, { accessFlags := 18, nameIndex := 44, descriptorIndex := 16, attributes := #[] }, { accessFlags := 18, nameIndex := 25, descriptorIndex := 16, attributes := #[] }, { accessFlags := 2, nameIndex := 11, descriptorIndex := 12, attributes := #[] }, { accessFlags := 18, nameIndex := 28, descriptorIndex := 16, attributes := #[] }, { accessFlags := 18, nameIndex := 31, descriptorIndex := 16, attributes := #[] }, { accessFlags := 2, nameIndex := 62, descriptorIndex := 12, attributes := #[] }, { accessFlags := 2, nameIndex := 65, descriptorIndex := 66, attributes := #[] }, { accessFlags := 2, nameIndex := 69, descriptorIndex := 66, attributes := #[] }, { accessFlags := 2, nameIndex := 15, descriptorIndex := 16, attributes := #[] }, { accessFlags := 2, nameIndex := 72, descriptorIndex := 12, attributes := #[] }])
  fields := #[{ name := "numbers", type := (.array .int), accessFlags := 18, slot := 0, constantValue := 0 }, { name := "elements", type := (.array .int), accessFlags := 18, slot := 1, constantValue := 0 }, { name := "bucketShift", type := .int, accessFlags := 18, slot := 2, constantValue := 0 }, { name := "bucketStart", type := (.array .int), accessFlags := 18, slot := 3, constantValue := 0 }, { name := "foundIn", type := (.array .int), accessFlags := 18, slot := 4, constantValue := 0 }, { name := "search", type := .int, accessFlags := 2, slot := 5, constantValue := 0 }, { name := "next", type := (.array .int), accessFlags := 18, slot := 6, constantValue := 0 }, { name := "found", type := (.array .int), accessFlags := 18, slot := 7, constantValue := 0 }, { name := "foundCount", type := .int, accessFlags := 2, slot := 8, constantValue := 0 }, { name := "firstOnly", type := .boolean, accessFlags := 2, slot := 9, constantValue := 0 }, { name := "forRuns", type := .boolean, accessFlags := 2, slot := 10, constantValue := 0 }, { name := "runs", type := (.array .int), accessFlags := 2, slot := 11, constantValue := 0 }, { name := "runsLength", type := .int, accessFlags := 2, slot := 12, constantValue := 0 }]
  methods := #[k2m0, k2m1, k2m2, k2m3, k2m4, k2m5, k2m6, k2m7, k2m8, k2m9]
  instanceTypes := #[(.array .int), (.array .int), .int, (.array .int), (.array .int), .int, (.array .int), (.array .int), .int, .boolean, .boolean, (.array .int), .int]
  staticTypes := #[]
  resolved := Array.replicate 122 none
  statics := none }

def pool3 : Array CpInfo := pool [(1, .class_ 2), (0, u "java/lang/Math"), (1, .class_ 6), (1, u "java/lang/Object"), (0, u "<init>"), (0, u "()V"), (89, .class_ 100), (1, u "java/lang/Math$RandomNumberGeneratorHolder"), (71, u "negativeZeroFloatBits"), (0, u "J"), (2, u "negativeZeroDoubleBits"), (21, u "max"), (46, u "$assertionsDisabled"), (0, u "Z"), (88, u "(II)I"), (2, u "twoToTheDoubleScaleDown"), (0, u "D"), (4, u "twoToTheDoubleScaleUp"), (9, u "E"), (3, u "PI"), (2, u "TAU"), (2, u "DEGREES_TO_RADIANS"), (0, u "RADIANS_TO_DEGREES")] 94

def k3m0 : Method := { name := "<init>", desc := "()V", sig := { parameters := [], returnType := none }, accessFlags := 2, code := none }
def k3c1 : Code := { maxStack := 2, maxLocals := 2, code := jdk_29_method_65_code, exceptionTable := #[], attributes := #[] }
def k3m1 : Method := { name := "max", desc := "(II)I", sig := { parameters := [.int, .int], returnType := some .int }, accessFlags := 9, code := some k3c1 }
/-- java/lang/Math -/
def k3 : Class := { plain "java/lang/Math" (some 0) with
  accessFlags := 49
  interfaces := #[]
  cf := some (fileOf pool3 1 #[.nestMembers #[98]] #[{ accessFlags := 2, nameIndex := 7, descriptorIndex := 8, attributes := #[] }, { accessFlags := 9, nameIndex := 198, descriptorIndex := 335, attributes := #[] }] 49 4 #[] #[{ accessFlags := 25, nameIndex := 354, descriptorIndex := 339, attributes := #[] }, { accessFlags := 25, nameIndex := 358, descriptorIndex := 339, attributes := #[] }, { accessFlags := 25, nameIndex := 361, descriptorIndex := 339, attributes := #[] }, { accessFlags := 26, nameIndex := 364, descriptorIndex := 339, attributes := #[] }, { accessFlags := 26, nameIndex := 365, descriptorIndex := 339, attributes := #[] }, { accessFlags := 26, nameIndex := 172, descriptorIndex := 173, attributes := #[] }, { accessFlags := 26, nameIndex := 176, descriptorIndex := 173, attributes := #[] }, { accessFlags := 8, nameIndex := 344, descriptorIndex := 339, attributes := #[] }, { accessFlags := 8, nameIndex := 338, descriptorIndex := 339, attributes := #[] }, { accessFlags := 4120, nameIndex := 245, descriptorIndex := 246, attributes := #[] }])
  fields := #[{ name := "E", type := .double, accessFlags := 25, slot := 0, constantValue := 0 }, { name := "PI", type := .double, accessFlags := 25, slot := 1, constantValue := 0 }, { name := "TAU", type := .double, accessFlags := 25, slot := 2, constantValue := 0 }, { name := "DEGREES_TO_RADIANS", type := .double, accessFlags := 26, slot := 3, constantValue := 0 }, { name := "RADIANS_TO_DEGREES", type := .double, accessFlags := 26, slot := 4, constantValue := 0 }, { name := "negativeZeroFloatBits", type := .long, accessFlags := 26, slot := 5, constantValue := 0 }, { name := "negativeZeroDoubleBits", type := .long, accessFlags := 26, slot := 6, constantValue := 0 }, { name := "twoToTheDoubleScaleUp", type := .double, accessFlags := 8, slot := 7, constantValue := 0 }, { name := "twoToTheDoubleScaleDown", type := .double, accessFlags := 8, slot := 8, constantValue := 0 }, { name := "$assertionsDisabled", type := .boolean, accessFlags := 4120, slot := 9, constantValue := 0 }]
  methods := #[k3m0, k3m1]
  instanceTypes := #[]
  staticTypes := #[.double, .double, .double, .double, .double, .long, .long, .double, .double, .boolean]
  resolved := Array.replicate 460 none
  statics := none }

def pool4 : Array CpInfo := pool [(1, u "java/lang/Cloneable"), (0, .class_ 1), (0, u "java/lang/Object"), (0, .class_ 3)] 3

/-- java/lang/Cloneable -/
def k4 : Class := { plain "java/lang/Cloneable" (some 0) with
  accessFlags := 1537
  interfaces := #[]
  cf := some (fileOf pool4 2 #[] #[] 1537 4 #[] #[])
  fields := #[]
  methods := #[]
  instanceTypes := #[]
  staticTypes := #[]
  resolved := Array.replicate 8 none
  statics := none }

def pool5 : Array CpInfo := pool [(1, u "java/io/Serializable"), (0, .class_ 1), (0, u "java/lang/Object"), (0, .class_ 3)] 3

/-- java/io/Serializable -/
def k5 : Class := { plain "java/io/Serializable" (some 0) with
  accessFlags := 1537
  interfaces := #[]
  cf := some (fileOf pool5 2 #[] #[] 1537 4 #[] #[])
  fields := #[]
  methods := #[]
  instanceTypes := #[]
  staticTypes := #[]
  resolved := Array.replicate 8 none
  statics := none }

/-- the primitive byte -/
def k6 : Class := { plain "byte" none with kind := .primitive 'B', accessFlags := 0x411 }
/-- [B -/
def k7 : Class := { plain "[B" (some 0) with kind := .array 6 .byte, interfaces := #[4, 5], accessFlags := 1041 }

/-- the primitive int -/
def k8 : Class := { plain "int" none with kind := .primitive 'I', accessFlags := 0x411 }
/-- [I -/
def k9 : Class := { plain "[I" (some 0) with kind := .array 8 .int, interfaces := #[4, 5], accessFlags := 1041 }

def heap : Heap := #[]
def classes : Array Class := #[k0, k1, k2, k3, k4, k5, k6, k7, k8, k9]
def interned : List (Array UInt16 × Addr) := []
def slotsUsed : Nat := 0
def theMethod : MethodId := ⟨1, 2⟩
def args0 : Array Value := #[.int 2, .int 3, .int 4, .int 3, .int 9, .int 1]
def aboutOver (below : List Frame) : State where
  vm := { classes := classes, interned := interned.toArray }
  heap := heap
  slotsUsed := slotsUsed
  threads := #[{ frames := .invoking theMethod args0 :: below }]
def below0 : List Frame := [.native { method := ⟨0, 0⟩, args := #[] }]
def about1 : State := aboutOver below0
def p0 : Program := .bare "" "" ""
def e0 : Env := launch0.env 0 0 0
theorem w_frames : about1.frames = Frame.invoking theMethod args0 :: below0 := rfl
set_option maxRecDepth 65536 in
theorem w_args : argsFit about1.vm theMethod args0 = true := by decide +kernel
set_option maxRecDepth 65536 in
theorem w_heap : heapFits about1 = true := by decide +kernel
set_option maxRecDepth 65536 in
theorem w_runnable : about1.curStatus? = some .runnable := by decide +kernel
set_option maxRecDepth 65536 in
theorem w_alone : about1.alone = true := by decide +kernel
set_option maxRecDepth 65536 in
theorem w_named : about1.methodNamed? x = some theMethod := by decide +kernel
set_option maxRecDepth 65536 in
theorem w_hears : about1.hears theMethod below0 = true := by decide +kernel
set_option maxRecDepth 65536 in
theorem w_ripe : about1.ripe theMethod args0 below0 = true := by decide +kernel
theorem w_running : about1.status = .running := rfl
set_option maxRecDepth 65536 in
theorem w_room : about1.hasRoom e0.platform room_1 = true :=
  launch0.hasRoom_least _ room_1 (by decide +kernel) (by decide +kernel) (by decide +kernel) (by decide +kernel) (by decide +kernel) (by decide +kernel)
theorem allAtoms_all (ts : List Jvm.Cond) (a : Array Jvm.Value) (st : Jvm.State) : (allAtoms ts).before a st = ts.all (fun c => c.before a st) := by
  induction ts with
  | nil => rfl
  | cons c t ih =>
    show (Jvm.Cond.and c (allAtoms t)).before a st = _
    rw [Jvm.Cond.before_and, ih, List.all_cons]
def words1 : List Jvm.Cond := Jvm.Cond.code x code maxLocals ret :: tables_1
/-- a 'code' word, met by the world's own term for the bytes: nothing is compared byte by byte -/
theorem code_word {y : MethodName} {bytes : ByteArray} {mx : Nat} {rt : Option FieldType} {a : Array Value} {s : State} {m : MethodId} {meth : Method} {c : Code} (h1 : s.methodNamed? y = some m) (h2 : s.vm.method? m = some meth) (h3 : meth.code = some c) (h4 : c.code = bytes)
    (h5 : (c.maxLocals == mx && c.exceptionTable.isEmpty && decide (c.maxStack ≤ mostOperands) && decide (meth.sig.returnType = rt) && !meth.locks && decide (parseMethodDescriptor y.desc = some meth.sig)) = true) : (Jvm.Cond.code y bytes mx rt).before a s = true := by
  simp only [Bool.and_eq_true, beq_iff_eq, Bool.not_eq_true', decide_eq_true_eq] at h5
  obtain ⟨⟨⟨⟨⟨g1, g2⟩, g3⟩, g4⟩, g5⟩, g6⟩ := h5
  simp [Cond.before, Cond.holds, Cond.value, h1, h2, h3, h4, g1, g2, g3, g4, g5, g6]
def isCode : Jvm.Cond → Bool
  | .code _ _ _ _ => true
  | _ => false
theorem all_split {L : List Jvm.Cond} {P : Jvm.Cond → Bool} (h1 : L.all (fun c => isCode c || P c) = true) (h2 : ∀ c ∈ L.filter isCode, P c = true) : L.all P = true := by
  refine List.all_eq_true.mpr fun c hc => ?_
  have h := List.all_eq_true.mp h1 c hc
  rcases Bool.eq_false_or_eq_true (isCode c) with hi | hi
  · exact h2 c (List.mem_filter.mpr ⟨hc, hi⟩)
  · simpa [hi] using h
set_option maxRecDepth 65536 in
theorem w_c0 : (Jvm.Cond.code x code maxLocals ret).before args0 about1 = true := code_word (m := ⟨1, 2⟩) (meth := k1m2) (c := k1c2) (by decide +kernel) rfl rfl rfl (by decide +kernel)
set_option maxRecDepth 65536 in
theorem w_c1 : (Jvm.Cond.code ({ cls := "com/example/reachability/reachability/CandidateListSatisfiedPinLaw", name := "in", desc := "(III)Z" } : Jvm.MethodName) method_2_code (3 : Nat) (Option.some Jvm.ClassFile.FieldType.boolean)).before args0 about1 = true := code_word (m := ⟨1, 1⟩) (meth := k1m1) (c := k1c1) (by decide +kernel) rfl rfl rfl (by decide +kernel)
set_option maxRecDepth 65536 in
theorem w_c2 : (Jvm.Cond.code ({ cls := "com/example/reachability/reachability/CandidateList", name := "<init>", desc := "([I[I)V" } : Jvm.MethodName) prog_2_method_1_code (3 : Nat) (Option.none : Option Jvm.ClassFile.FieldType)).before args0 about1 = true := code_word (m := ⟨2, 0⟩) (meth := k2m0) (c := k2c0) (by decide +kernel) rfl rfl rfl (by decide +kernel)
set_option maxRecDepth 65536 in
theorem w_c3 : (Jvm.Cond.code ({ cls := "java/lang/Object", name := "<init>", desc := "()V" } : Jvm.MethodName) object_method_1_code (1 : Nat) (Option.none : Option Jvm.ClassFile.FieldType)).before args0 about1 = true := code_word (m := ⟨0, 0⟩) (meth := k0m0) (c := k0c0) (by decide +kernel) rfl rfl rfl (by decide +kernel)
set_option maxRecDepth 65536 in
theorem w_c4 : (Jvm.Cond.code ({ cls := "com/example/reachability/reachability/CandidateList", name := "bucketShift", desc := "([I)I" } : Jvm.MethodName) prog_2_method_2_code (3 : Nat) (Option.some Jvm.ClassFile.FieldType.int)).before args0 about1 = true := code_word (m := ⟨2, 1⟩) (meth := k2m1) (c := k2c1) (by decide +kernel) rfl rfl rfl (by decide +kernel)
set_option maxRecDepth 65536 in
theorem w_c5 : (Jvm.Cond.code ({ cls := "java/lang/Math", name := "max", desc := "(II)I" } : Jvm.MethodName) jdk_29_method_65_code (2 : Nat) (Option.some Jvm.ClassFile.FieldType.int)).before args0 about1 = true := code_word (m := ⟨3, 1⟩) (meth := k3m1) (c := k3c1) (by decide +kernel) rfl rfl rfl (by decide +kernel)
set_option maxRecDepth 65536 in
theorem w_c6 : (Jvm.Cond.code ({ cls := "com/example/reachability/reachability/CandidateList", name := "bucketStarts", desc := "([II)[I" } : Jvm.MethodName) prog_2_method_3_code (8 : Nat) (Option.some (Jvm.ClassFile.FieldType.array Jvm.ClassFile.FieldType.int))).before args0 about1 = true := code_word (m := ⟨2, 2⟩) (meth := k2m2) (c := k2c2) (by decide +kernel) rfl rfl rfl (by decide +kernel)
set_option maxRecDepth 65536 in
theorem w_c7 : (Jvm.Cond.code ({ cls := "com/example/reachability/reachability/CandidateList", name := "satisfied", desc := "()Z" } : Jvm.MethodName) prog_2_method_9_code (1 : Nat) (Option.some Jvm.ClassFile.FieldType.boolean)).before args0 about1 = true := code_word (m := ⟨2, 4⟩) (meth := k2m4) (c := k2c4) (by decide +kernel) rfl rfl rfl (by decide +kernel)
set_option maxRecDepth 65536 in
theorem w_c8 : (Jvm.Cond.code ({ cls := "com/example/reachability/reachability/CandidateList", name := "reset", desc := "(Z)V" } : Jvm.MethodName) prog_2_method_7_code (2 : Nat) (Option.none : Option Jvm.ClassFile.FieldType)).before args0 about1 = true := code_word (m := ⟨2, 3⟩) (meth := k2m3) (c := k2c3) (by decide +kernel) rfl rfl rfl (by decide +kernel)
set_option maxRecDepth 65536 in
theorem w_c9 : (Jvm.Cond.code ({ cls := "com/example/reachability/reachability/CandidateList", name := "find", desc := "(II)I" } : Jvm.MethodName) prog_2_method_12_code (5 : Nat) (Option.some Jvm.ClassFile.FieldType.int)).before args0 about1 = true := code_word (m := ⟨2, 5⟩) (meth := k2m5) (c := k2c5) (by decide +kernel) rfl rfl rfl (by decide +kernel)
set_option maxRecDepth 65536 in
theorem w_c10 : (Jvm.Cond.code ({ cls := "com/example/reachability/reachability/CandidateList", name := "first", desc := "(I)I" } : Jvm.MethodName) prog_2_method_19_code (3 : Nat) (Option.some Jvm.ClassFile.FieldType.int)).before args0 about1 = true := code_word (m := ⟨2, 7⟩) (meth := k2m7) (c := k2c7) (by decide +kernel) rfl rfl rfl (by decide +kernel)
set_option maxRecDepth 65536 in
theorem w_c11 : (Jvm.Cond.code ({ cls := "com/example/reachability/reachability/CandidateList", name := "firstAtLeast", desc := "([IIII)I" } : Jvm.MethodName) prog_2_method_20_code (7 : Nat) (Option.some Jvm.ClassFile.FieldType.int)).before args0 about1 = true := code_word (m := ⟨2, 8⟩) (meth := k2m8) (c := k2c8) (by decide +kernel) rfl rfl rfl (by decide +kernel)
set_option maxRecDepth 65536 in
theorem w_c12 : (Jvm.Cond.code ({ cls := "com/example/reachability/reachability/CandidateList", name := "open", desc := "(I)I" } : Jvm.MethodName) prog_2_method_21_code (5 : Nat) (Option.some Jvm.ClassFile.FieldType.int)).before args0 about1 = true := code_word (m := ⟨2, 9⟩) (meth := k2m9) (c := k2c9) (by decide +kernel) rfl rfl rfl (by decide +kernel)
set_option maxRecDepth 65536 in
theorem w_c13 : (Jvm.Cond.code ({ cls := "com/example/reachability/reachability/CandidateList", name := "numberOf", desc := "(I)I" } : Jvm.MethodName) prog_2_method_18_code (2 : Nat) (Option.some Jvm.ClassFile.FieldType.int)).before args0 about1 = true := code_word (m := ⟨2, 6⟩) (meth := k2m6) (c := k2c6) (by decide +kernel) rfl rfl rfl (by decide +kernel)
def codes1 : List Jvm.Cond := [Jvm.Cond.code x code maxLocals ret, Jvm.Cond.code ({ cls := "com/example/reachability/reachability/CandidateListSatisfiedPinLaw", name := "in", desc := "(III)Z" } : Jvm.MethodName) method_2_code (3 : Nat) (Option.some Jvm.ClassFile.FieldType.boolean), Jvm.Cond.code ({ cls := "com/example/reachability/reachability/CandidateList", name := "<init>", desc := "([I[I)V" } : Jvm.MethodName) prog_2_method_1_code (3 : Nat) (Option.none : Option Jvm.ClassFile.FieldType), Jvm.Cond.code ({ cls := "java/lang/Object", name := "<init>", desc := "()V" } : Jvm.MethodName) object_method_1_code (1 : Nat) (Option.none : Option Jvm.ClassFile.FieldType), Jvm.Cond.code ({ cls := "com/example/reachability/reachability/CandidateList", name := "bucketShift", desc := "([I)I" } : Jvm.MethodName) prog_2_method_2_code (3 : Nat) (Option.some Jvm.ClassFile.FieldType.int), Jvm.Cond.code ({ cls := "java/lang/Math", name := "max", desc := "(II)I" } : Jvm.MethodName) jdk_29_method_65_code (2 : Nat) (Option.some Jvm.ClassFile.FieldType.int), Jvm.Cond.code ({ cls := "com/example/reachability/reachability/CandidateList", name := "bucketStarts", desc := "([II)[I" } : Jvm.MethodName) prog_2_method_3_code (8 : Nat) (Option.some (Jvm.ClassFile.FieldType.array Jvm.ClassFile.FieldType.int)), Jvm.Cond.code ({ cls := "com/example/reachability/reachability/CandidateList", name := "satisfied", desc := "()Z" } : Jvm.MethodName) prog_2_method_9_code (1 : Nat) (Option.some Jvm.ClassFile.FieldType.boolean), Jvm.Cond.code ({ cls := "com/example/reachability/reachability/CandidateList", name := "reset", desc := "(Z)V" } : Jvm.MethodName) prog_2_method_7_code (2 : Nat) (Option.none : Option Jvm.ClassFile.FieldType), Jvm.Cond.code ({ cls := "com/example/reachability/reachability/CandidateList", name := "find", desc := "(II)I" } : Jvm.MethodName) prog_2_method_12_code (5 : Nat) (Option.some Jvm.ClassFile.FieldType.int), Jvm.Cond.code ({ cls := "com/example/reachability/reachability/CandidateList", name := "first", desc := "(I)I" } : Jvm.MethodName) prog_2_method_19_code (3 : Nat) (Option.some Jvm.ClassFile.FieldType.int), Jvm.Cond.code ({ cls := "com/example/reachability/reachability/CandidateList", name := "firstAtLeast", desc := "([IIII)I" } : Jvm.MethodName) prog_2_method_20_code (7 : Nat) (Option.some Jvm.ClassFile.FieldType.int), Jvm.Cond.code ({ cls := "com/example/reachability/reachability/CandidateList", name := "open", desc := "(I)I" } : Jvm.MethodName) prog_2_method_21_code (5 : Nat) (Option.some Jvm.ClassFile.FieldType.int), Jvm.Cond.code ({ cls := "com/example/reachability/reachability/CandidateList", name := "numberOf", desc := "(I)I" } : Jvm.MethodName) prog_2_method_18_code (2 : Nat) (Option.some Jvm.ClassFile.FieldType.int)]
set_option maxRecDepth 65536 in
theorem codes_eq : words1.filter isCode = codes1 := rfl
theorem w_codes : ∀ c ∈ words1.filter isCode, c.before args0 about1 = true := by
  rw [codes_eq]
  intro c hc
  simp only [codes1, List.mem_cons, List.not_mem_nil, or_false] at hc
  rcases hc with rfl | rfl | rfl | rfl | rfl | rfl | rfl | rfl | rfl | rfl | rfl | rfl | rfl | rfl
  · exact w_c0
  · exact w_c1
  · exact w_c2
  · exact w_c3
  · exact w_c4
  · exact w_c5
  · exact w_c6
  · exact w_c7
  · exact w_c8
  · exact w_c9
  · exact w_c10
  · exact w_c11
  · exact w_c12
  · exact w_c13
set_option maxRecDepth 65536 in
theorem w_t1 : (words1.take 24).all (fun c => isCode c || c.before args0 about1) = true := by decide +kernel
set_option maxRecDepth 65536 in
theorem w_t2 : ((words1.drop 24).take 24).all (fun c => isCode c || c.before args0 about1) = true := by decide +kernel
set_option maxRecDepth 65536 in
theorem w_t3 : (((words1.drop 24).drop 24).take 24).all (fun c => isCode c || c.before args0 about1) = true := by decide +kernel
set_option maxRecDepth 65536 in
theorem w_t4 : (((words1.drop 24).drop 24).drop 24).all (fun c => isCode c || c.before args0 about1) = true := by decide +kernel
theorem w_tables : (allAtoms (Jvm.Cond.code x code maxLocals ret :: tables_1)).before args0 about1 = true := by
  rw [allAtoms_all]
  show words1.all (fun c => c.before args0 about1) = true
  refine all_split ?_ w_codes
  rw [← List.take_append_drop 24 words1, List.all_append, w_t1, ← List.take_append_drop 24 (words1.drop 24), List.all_append, w_t2, ← List.take_append_drop 24 ((words1.drop 24).drop 24), List.all_append, w_t3, w_t4]
  rfl
set_option maxRecDepth 65536 in
theorem w_case : (Jvm.Cond.and given_1 narrow_1).before args0 about1 = true := by decide +kernel
theorem w_applies : (headSpec (Jvm.Cond.code x code maxLocals ret :: tables_1) room_1).applies x e0.platform about1 = true :=
  (Spec.applies_iff w_frames).mpr ⟨w_running, w_runnable, w_alone, w_named, w_hears, w_ripe, w_room, w_tables⟩
theorem atStart : AtStart classFile x code maxLocals ret World_1 tables_1 room_1 Calls_1 rest_1 Pre_1 launch0 p0 e0 about1 theMethod args0 below0 :=
  ⟨lists_1, trivial, launch0.admits_env _ _ _, launch0.least_env, fairChoices_fair.cas, fairChoices_fair.clock, w_frames, w_args, w_heap, w_applies, trivial, trivial, w_case⟩
end start1
theorem witness_1 : WitnessClaimed_1 := ⟨start1.p0, start1.e0, start1.about1, start1.theMethod, start1.args0, start1.below0, start1.atStart⟩
end Jvm.Pilot.@@N@@
