import JvmDerived
import JvmDerived.Pilot.@@N@@Statement
import JvmDerived.Pilot.@@N@@Code
set_option linter.unusedVariables false
set_option linter.unusedSimpArgs false
namespace Jvm.Pilot.@@N@@
open Jvm Jvm.ClassFile Sem Op Lib Jvm.Free Jvm.Stand Jvm.LawKit Jvm.RoadKit Bundle Jvm.Pilot.@@N@@.Jvm.D
/-! own layer: the run from a state ends in a return of which Q holds; one step leads from there to there -/
def own_ishl (x y : Int32) : Int32 := x <<< (y &&& 31)
def own_ishr (x y : Int32) : Int32 := x >>> (y &&& 31)
def own_iushr (x y : Int32) : Int32 := (x.toUInt32 >>> (y &&& 31).toUInt32).toInt32
def own_lshl (x : Int64) (y : Int32) : Int64 := x <<< (y &&& 0x3f).toInt64
def own_lshr (x : Int64) (y : Int32) : Int64 := x >>> (y &&& 0x3f).toInt64
def own_lushr (x : Int64) (y : Int32) : Int64 := (x.toUInt64 >>> (y &&& 0x3f).toInt64.toUInt64).toInt64
def own_i2b (x : Int32) : Int32 := x.toInt8.toInt32
def own_i2c (x : Int32) : Int32 := x.toUInt32.toUInt16.toUInt32.toInt32
def own_Fin (tb : Tables) (e : Env) (below : List Frame) (s : State) (Q : Option Value → Heap → List Loc → Prop) (k n : Nat) (t : State) : Prop :=
  ∃ s₂ o, Steps tb e below t s₂ ∧ s₂.status = .running ∧ Ended s₂ below o ∧ ∃ v L, o = .returned v ∧ Q v s₂.heap L ∧ FrameEnd s o s₂ L k n
theorem own_go {tb : Tables} {e : Env} {below : List Frame} {s : State} {Q : Option Value → Heap → List Loc → Prop} {k n : Nat} {t t' : State}
    (h : ∀ target, Steps tb e below t' target → Steps tb e below t target) (q : own_Fin tb e below s Q k n t') : own_Fin tb e below s Q k n t := by
  obtain ⟨s2, o, h1, h2⟩ := q
  exact ⟨s2, o, h _ h1, h2⟩
def own_QP (r : Option Value) (h0 : Heap) (n0 : Nat) (v : Option Value) (h : Heap) (L : List Loc) : Prop := v = r ∧ Fr n0 L ∧ h = h0
section OwnA
variable {p : Program} {l : Launch} {e : Env} {R : Room} {s : State} {m : MethodId} {args : Array Value} {below : List Frame} {meth : Method} {c : Code} {T : State} {locs : List Loc} {cells slots : Nat}
theorem own_mono (X : Stand p l e R s m args below meth c T locs cells slots) {k n : Nat} (hk : cells ≤ k) (hn : slots ≤ n) : Stand p l e R s m args below meth c T locs k n :=
  { X with same := X.same.mono hk hn }
theorem own_ret (X : Stand p l e R s m args below meth c T locs cells slots) (hx : p.tables.exec = Jvm.exec) (hlk : meth.locks = false) {pc : Nat} {Ls : Array Slot} {w : Value} {t : FieldType} {i : Instr} {rest : List Value} (hret : meth.sig.returnType = some t) (hn : narrow t w = w)
    (hi : (i = .ireturn ∧ (t = .int ∨ t = .boolean ∨ t = .byte ∨ t = .char ∨ t = .short) ∧ ∃ z, w = .int z) ∨ (i = .lreturn ∧ t = .long ∧ ∃ z, w = .long z) ∨ (i = .dreturn ∧ t = .double ∧ ∃ z, w = .double z) ∨ (i = .freturn ∧ t = .float ∧ ∃ z, w = .float z) ∨ (i = .areturn ∧ t.isReference = true ∧ w.isRef = true))
    (hd : decode c.code pc = .ok (i, 1)) {Q : Option Value → Heap → List Loc → Prop} {k n : Nat} (hk : cells ≤ k) (hs : slots ≤ n) (hQ : Q (some w) T.heap locs) :
    own_Fin p.tables e below s Q k n (T.setTop (mkF m pc Ls (w :: rest))) := by
  obtain ⟨fs, hr, hrun, hended, hW, hsame⟩ := X.leave (v := some w) (fun h => by rw [hret] at h; cases h) hlk
  exact ⟨_, _, retOut X hx hret hn hi hd hr, hrun, hended, _, _, rfl, hQ, ⟨_, rfl⟩, hW, hsame.mono hk hs⟩
theorem own_retV (X : Stand p l e R s m args below meth c T locs cells slots) (hx : p.tables.exec = Jvm.exec) (hlk : meth.locks = false) {pc : Nat} {Ls : Array Slot} (hret : meth.sig.returnType = none)
    (hd : decode c.code pc = .ok (.return_, 1)) {Q : Option Value → Heap → List Loc → Prop} {k n : Nat} (hk : cells ≤ k) (hs : slots ≤ n) (hQ : Q none T.heap locs) :
    own_Fin p.tables e below s Q k n (T.setTop (mkF m pc Ls [])) := by
  obtain ⟨fs, hr, hrun, hended, hW, hsame⟩ := X.leave (v := none) (fun _ => rfl) hlk
  exact ⟨_, _, X.returnOut hx hret hd hr, hrun, hended, _, _, rfl, hQ, ⟨_, rfl⟩, hW, hsame.mono hk hs⟩
end OwnA
theorem own_irem {tb : Tables} [Ours tb] {e : Env} {below : List Frame} {T target : State} {m : MethodId} {c : Code} {g : JFrame} (h : At T m c below) (hx : tb.exec = Jvm.exec) (hg : g.method = m) {x y : Int32} {rest : List Value} (hd : decode c.code g.pc = .ok (.irem, 1)) (hs : g.stack = .int y :: .int x :: rest) (hy : y ≠ 0)
    (hr : Steps tb e below (T.setTop { g with pc := g.pc + 1, stack := .int (x % y) :: rest }) target) : Steps tb e below (T.setTop g) target :=
  XS.irem h hx hg hd hs hy (by rw [irem_eq_mod x y]; exact hr)
theorem own_lrem {tb : Tables} [Ours tb] {e : Env} {below : List Frame} {T target : State} {m : MethodId} {c : Code} {g : JFrame} (h : At T m c below) (hx : tb.exec = Jvm.exec) (hg : g.method = m) {x y : Int64} {rest : List Value} (hd : decode c.code g.pc = .ok (.lrem, 1)) (hs : g.stack = .long y :: .long x :: rest) (hy : y ≠ 0)
    (hr : Steps tb e below (T.setTop { g with pc := g.pc + 1, stack := .long (x % y) :: rest }) target) : Steps tb e below (T.setTop g) target :=
  XS.lrem h hx hg hd hs hy (by rw [lrem_mod x y]; exact hr)
/-! arrays by a function of the place -/
def own_set {α : Type} (f : Nat → α) (j : Int32) (v : α) : Nat → α := fun i => if i = j.toNatClampNeg then v else f i
def own_Arf (Z : State) (h : Heap) (a : Addr) (ty : FieldType) (n : Int32) (f : Nat → Value) : Prop :=
  ∃ c : Cell, Arr Z h a c ty ∧ c.slots.size = n.toNatClampNeg ∧ ¬ n < 0 ∧ ∀ i, i < n.toNatClampNeg → c.slots[i]? = some (f i)
section OwnB
variable {Z : State} {h h' : Heap} {a b : Addr} {ty : FieldType} {n j : Int32} {f : Nat → Value} {ws : List Addr} {v : Value} {sl : Nat}
theorem own_Arf.lt (F : own_Arf Z h a ty n f) : a < h.size := by obtain ⟨c, A, -⟩ := F; exact A.lt
theorem own_Arf.ext (F : own_Arf Z h a ty n f) (E : Ext h h') : own_Arf Z h' a ty n f := by obtain ⟨c, A, r⟩ := F; exact ⟨c, A.ext E, r⟩
theorem own_Arf.other (F : own_Arf Z h b ty n f) (W : Wr h h' a sl v) (q : b ≠ a) : own_Arf Z h' b ty n f := by obtain ⟨c, A, r⟩ := F; exact ⟨c, A.other W q, r⟩
theorem own_Arf.keep (F : own_Arf Z h a ty n f) (K : Keep h h' ws) (q : a ∉ ws) : own_Arf Z h' a ty n f := by obtain ⟨c, A, r⟩ := F; exact ⟨c, ⟨K.2.1 a c A.1 q, A.2⟩, r⟩
theorem own_Arf.new {k : ClassId} (A : Arr Z h a (newA k ty n) ty) (q : ¬ n < 0) : own_Arf Z h a ty n (fun _ => defaultValue ty) :=
  ⟨_, A, sz_new _ _ _, q, fun i hi => by simp [newA, hi]⟩
theorem own_Arf.wr (F : own_Arf Z h a ty n f) (W : Wr h h' a j.toNatClampNeg v) : own_Arf Z h' a ty n (fun i => if i = j.toNatClampNeg then v else f i) := by
  obtain ⟨c, A, S, q, H⟩ := F
  refine ⟨_, A.same W, by rw [sz_set]; exact S, q, fun i hi => ?_⟩
  by_cases u : i = j.toNatClampNeg
  · subst u; simp [Cell.setSlot, S, hi]
  · simp only [if_neg u, Cell.setSlot]; rw [Array.getElem?_setIfInBounds_ne (Ne.symm u)]; exact H i hi
theorem own_Arf.fn {g : Nat → Value} (F : own_Arf Z h a ty n f) (q : ∀ i, i < n.toNatClampNeg → f i = g i) : own_Arf Z h a ty n g := by
  obtain ⟨c, A, S, q', H⟩ := F
  exact ⟨c, A, S, q', fun i hi => by rw [← q i hi]; exact H i hi⟩
variable {p : Program} {l : Launch} {e : Env} {R : Room} {s : State} {m : MethodId} {args : Array Value} {below : List Frame} {meth : Method} {c : Code} {T : State} {locs : List Loc} {cells slots : Nat} {g : JFrame} {rest : List Value}
theorem own_alen (X : Stand p l e R s m args below meth c T locs cells slots) (hx : p.tables.exec = Jvm.exec) (hZ : Z.Warmed39 s.vm) (eT : T.heap = h) (F : own_Arf Z h a ty n f) (hg : g.method = m) (hs : g.stack = .ref a :: rest) (hd : decode c.code g.pc = .ok (.arraylength, 1)) (target : State)
    (hr : Steps p.tables e below (T.setTop { g with pc := g.pc + 1, stack := .int n :: rest }) target) : Steps p.tables e below (T.setTop g) target := by
  obtain ⟨cl, A, S, q, H⟩ := F
  refine X.arraylength hx (by rw [eT]; exact A.1) (State.isArrayOf_alike hZ.alike A.2.1) hg hs hd _ ?_
  rw [len_of S q]; exact hr
theorem own_iaload (X : Stand p l e R s m args below meth c T locs cells slots) (hx : p.tables.exec = Jvm.exec) (hZ : Z.Warmed39 s.vm) (eT : T.heap = h) (F : own_Arf Z h a .int n f) (hj : ¬ j < 0 ∧ j < n) {x : Int32} (hv : f j.toNatClampNeg = .int x) (hg : g.method = m) (hs : g.stack = .int j :: .ref a :: rest) (hd : decode c.code g.pc = .ok (.iaload, 1)) (target : State)
    (hr : Steps p.tables e below (T.setTop { g with pc := g.pc + 1, stack := .int x :: rest }) target) : Steps p.tables e below (T.setTop g) target := by
  obtain ⟨cl, A, S, q, H⟩ := F
  have hin := inb_of S hj
  exact X.iaload hx (by rw [eT]; exact A.1) (State.isArrayOf_alike hZ.alike A.2.1) A.2.2 hin (by rw [H _ (by rw [← S]; omega), hv]) hg hs hd _ hr
theorem own_baload (X : Stand p l e R s m args below meth c T locs cells slots) (hx : p.tables.exec = Jvm.exec) (hZ : Z.Warmed39 s.vm) (eT : T.heap = h) (F : own_Arf Z h a .byte n f) (hj : ¬ j < 0 ∧ j < n) {x : Int32} (hv : f j.toNatClampNeg = .int x) (hg : g.method = m) (hs : g.stack = .int j :: .ref a :: rest) (hd : decode c.code g.pc = .ok (.baload, 1)) (target : State)
    (hr : Steps p.tables e below (T.setTop { g with pc := g.pc + 1, stack := .int x :: rest }) target) : Steps p.tables e below (T.setTop g) target := by
  obtain ⟨cl, A, S, q, H⟩ := F
  have hin := inb_of S hj
  exact X.baloadBytes hx (by rw [eT]; exact A.1) (State.isArrayOf_alike hZ.alike A.2.1) A.2.2 hin (by rw [H _ (by rw [← S]; omega), hv]) hg hs hd _ hr
theorem own_laload (X : Stand p l e R s m args below meth c T locs cells slots) (hx : p.tables.exec = Jvm.exec) (hZ : Z.Warmed39 s.vm) (eT : T.heap = h) (F : own_Arf Z h a .long n f) (hj : ¬ j < 0 ∧ j < n) {x : Int64} (hv : f j.toNatClampNeg = .long x) (hg : g.method = m) (hs : g.stack = .int j :: .ref a :: rest) (hd : decode c.code g.pc = .ok (.laload, 1)) (target : State)
    (hr : Steps p.tables e below (T.setTop { g with pc := g.pc + 1, stack := .long x :: rest }) target) : Steps p.tables e below (T.setTop g) target := by
  obtain ⟨cl, A, S, q, H⟩ := F
  have hin := inb_of S hj
  exact X.laload hx (by rw [eT]; exact A.1) (State.isArrayOf_alike hZ.alike A.2.1) A.2.2 hin (by rw [H _ (by rw [← S]; omega), hv]) hg hs hd _ hr
theorem own_stI (X : Stand p l e R s m args below meth c T locs cells slots) (hx : p.tables.exec = Jvm.exec) (hZ : Z.Warmed39 s.vm) (eT : T.heap = h) {q : Nat → Int32} (F : own_Arf Z h a .int n (fun i => .int (q i))) (hj : ¬ j < 0 ∧ j < n) {x : Int32} (hg : g.method = m) (hs : g.stack = .int x :: .int j :: .ref a :: rest) (hd : decode c.code g.pc = .ok (.iastore, 1)) :
    ∃ T' h', Stand p l e R s m args below meth c T' (locs ++ [⟨a, j.toNatClampNeg⟩]) cells slots ∧ T'.heap = h' ∧ Wr h h' a j.toNatClampNeg (.int x) ∧ own_Arf Z h' a .int n (fun i => .int (own_set q j x i)) ∧ ∀ target, Steps p.tables e below (T'.setTop { g with pc := g.pc + 1, stack := rest }) target → Steps p.tables e below (T.setTop g) target := by
  obtain ⟨cl, A, S, q1, H⟩ := F
  obtain ⟨T', h', X', e', W, st⟩ := stI X hx hZ eT A (inb_of S hj) hg hs hd
  refine ⟨T', h', X', e', W, (own_Arf.wr ⟨cl, A, S, q1, H⟩ W).fn fun i hi => ?_, st⟩
  simp only [own_set]; split <;> rfl
theorem own_stB (X : Stand p l e R s m args below meth c T locs cells slots) (hx : p.tables.exec = Jvm.exec) (hZ : Z.Warmed39 s.vm) (eT : T.heap = h) {q : Nat → Int32} (F : own_Arf Z h a .byte n (fun i => .int (q i))) (hj : ¬ j < 0 ∧ j < n) {x : Int32} (hg : g.method = m) (hs : g.stack = .int x :: .int j :: .ref a :: rest) (hd : decode c.code g.pc = .ok (.bastore, 1)) :
    ∃ T' h', Stand p l e R s m args below meth c T' (locs ++ [⟨a, j.toNatClampNeg⟩]) cells slots ∧ T'.heap = h' ∧ Wr h h' a j.toNatClampNeg (.int (own_i2b x)) ∧ own_Arf Z h' a .byte n (fun i => .int (own_set q j (own_i2b x) i)) ∧ ∀ target, Steps p.tables e below (T'.setTop { g with pc := g.pc + 1, stack := rest }) target → Steps p.tables e below (T.setTop g) target := by
  obtain ⟨cl, A, S, q1, H⟩ := F
  obtain ⟨T', h', X', e', W, st⟩ := stB X hx hZ eT A (inb_of S hj) hg hs hd
  refine ⟨T', h', X', e', W, (own_Arf.wr ⟨cl, A, S, q1, H⟩ W).fn fun i hi => ?_, st⟩
  simp only [own_set]; split <;> rfl
theorem own_stJ (X : Stand p l e R s m args below meth c T locs cells slots) (hx : p.tables.exec = Jvm.exec) (hZ : Z.Warmed39 s.vm) (eT : T.heap = h) {q : Nat → Int64} (F : own_Arf Z h a .long n (fun i => .long (q i))) (hj : ¬ j < 0 ∧ j < n) {x : Int64} (hg : g.method = m) (hs : g.stack = .long x :: .int j :: .ref a :: rest) (hd : decode c.code g.pc = .ok (.lastore, 1)) :
    ∃ T' h', Stand p l e R s m args below meth c T' (locs ++ [⟨a, j.toNatClampNeg⟩]) cells slots ∧ T'.heap = h' ∧ Wr h h' a j.toNatClampNeg (.long x) ∧ own_Arf Z h' a .long n (fun i => .long (own_set q j x i)) ∧ ∀ target, Steps p.tables e below (T'.setTop { g with pc := g.pc + 1, stack := rest }) target → Steps p.tables e below (T.setTop g) target := by
  obtain ⟨cl, A, S, q1, H⟩ := F
  obtain ⟨T', h', X', e', W, st⟩ := stJ X hx hZ eT A (inb_of S hj) hg hs hd
  refine ⟨T', h', X', e', W, (own_Arf.wr ⟨cl, A, S, q1, H⟩ W).fn fun i hi => ?_, st⟩
  simp only [own_set]; split <;> rfl
end OwnB
def own_QL (r : Option Value) (n0 : Nat) (v : Option Value) (h : Heap) (L : List Loc) : Prop := v = r ∧ Fr n0 L ∧ True
theorem own_ne_arf {Z : State} {h : Heap} {a b : Addr} {C : String} {ty : FieldType} {n : Int32} {f : Nat → Value} {a0 : Array Value} {k : Nat} (F : Exa Z h a C) (wi : (Cond.instantiable C k).before a0 Z = true) (G : own_Arf Z h b ty n f) : a ≠ b := by
  obtain ⟨c, A, -⟩ := G; exact ne_arr F wi A
def own_Two (a b : Slot) : Prop := (a = .unset ∧ b = .unset) ∨ ∃ x : Int64, a = .val (.long x) ∧ b = .second
theorem own_selpriv {s : State} {args args' : Array Value} {y z : MethodName} (hz : z.cls = y.cls) (w : (Cond.selects z.cls z z).before args' s = true) (hp : s.PrivateAt y) (hi : (Cond.instanceMethod y).before args s = true) (hy : y.cls ≠ "java/lang/invoke/MethodHandle" ∧ y.cls ≠ "java/lang/invoke/VarHandle") : (Cond.selects y.cls y y).before args s = true := by
  obtain ⟨c, r, m, h1, h2, h3, h4, k, hk, hki⟩ := Cond.selects_spec w
  have hm := findClass_of_methodNamed h3
  rw [hz] at hm
  exact selects_self_of_private hm hk hki hp hi hy
theorem d4_0 : decode jdk_29_method_65_code 0 = .ok (.iload_n 0, 1) := by decide +kernel
theorem d4_1 : decode jdk_29_method_65_code 1 = .ok (.iload_n 1, 1) := by decide +kernel
theorem d4_2 : decode jdk_29_method_65_code 2 = .ok (.if_icmp .lt 7, 3) := by decide +kernel
theorem d4_5 : decode jdk_29_method_65_code 5 = .ok (.iload_n 0, 1) := by decide +kernel
theorem d4_6 : decode jdk_29_method_65_code 6 = .ok (.goto 4, 3) := by decide +kernel
theorem d4_9 : decode jdk_29_method_65_code 9 = .ok (.iload_n 1, 1) := by decide +kernel
theorem d4_10 : decode jdk_29_method_65_code 10 = .ok (.ireturn, 1) := by decide +kernel
theorem ef_4 (m : MethodId) (p0 : Int32) (p1 : Int32) : entryFrame m #[(.int p0), (.int p1)] 2 = mkF m 0 #[.val (.int p0), .val (.int p1)] [] := by first | (simp [entryFrame, mkF, argsToLocals, Value.category]; done) | rfl
def own_rm4_room : Room := { frames := 0, cells := 0, slots := 0, locals := 0 }
def own_f4 (p0 : Int32) (p1 : Int32) : Int32 := (if p0 < p1 then (p1) else (p0))
theorem own_lf_own_f4_1 {p0 : Int32} {p1 : Int32} (hc1 : p0 < p1) : (some (.int p1) : Option Value) = some (.int (own_f4 p0 p1)) := by
  first | (simp only [own_f4, if_pos hc1]; done) | (simp only [own_f4, if_pos hc1]; rfl) | rfl
theorem own_lf_own_f4_2 {p0 : Int32} {p1 : Int32} (hc1 : ¬ (p0 < p1)) : (some (.int p0) : Option Value) = some (.int (own_f4 p0 p1)) := by
  first | (simp only [own_f4, if_neg hc1]; done) | (simp only [own_f4, if_neg hc1]; rfl) | rfl
set_option maxRecDepth 65536 in
set_option maxHeartbeats 40000000 in
theorem rm4 (l : Launch) (Z : State) (a0 : Array Value) (hw : ∀ d ∈ tables_1, d.before a0 Z = true) (ws : List Jvm.Cond) (p0 : Int32) (p1 : Int32) (h0 : Heap) (n0 : Nat) (Z0 : n0 ≤ h0.size) :
    MetFree l (⟨"java/lang/Math", "max", "(II)I"⟩ : MethodName) (head1 (Jvm.Cond.code (⟨"java/lang/Math", "max", "(II)I"⟩ : MethodName) jdk_29_method_65_code 2 (some .int) :: ws) own_rm4_room) (fun a U => a = #[(.int p0), (.int p1)] ∧ Z.Warmed39 U.vm ∧ U.heap = h0) (fun _ _ _ _ _ => True) (fun _ U o U' => ∃ v L, o = .returned v ∧ own_QP (some (.int (own_f4 p0 p1))) h0 n0 v U'.heap L ∧ FrameEnd U o U' L own_rm4_room.cells own_rm4_room.slots) := by
  refine MetFree.of_bodySF (Jvm.Free.JP.mathPlain rfl (by decide +kernel)) hisR ?_
  intro p e s m args below meth c s₁ Bd hml0 hP hK
  obtain ⟨rfl, hZ, hh⟩ := hP
  have hx := Bd.exec
  have hby := Bd.bytes
  have hml : c.maxLocals = 2 := hml0
  have hown : s.vm.findClass "java/lang/Math" = some m.cls := findClass_of_methodNamed Bd.named
  have hnm := (name_of_methodNamed Bd.named Bd.method).1
  have hlk : meth.locks = false := BodyLoose.notSynchronized Bd
  have X0 : Stand p l e own_rm4_room s m #[(.int p0), (.int p1)] below meth c s₁ [] 0 0 := Stand.of_body Bd
  have e0 : s₁.heap = h0 := by rw [← hh, Bd.state]; rfl
  have N0 := Fr.nil n0
  show own_Fin p.tables e below s (own_QP (some (.int (own_f4 p0 p1))) h0 n0) own_rm4_room.cells own_rm4_room.slots (s₁.setTop (entryFrame m #[(.int p0), (.int p1)] 2))
  rw [ef_4]
  show own_Fin _ _ _ _ _ _ _ (s₁.setTop (mkF m 0 #[.val (.int p0), .val (.int p1)] []))
  refine own_go (fun _ k => XS.iloadN X0.here hx rfl (hb hby d4_0) rfl k) ?_
  show own_Fin _ _ _ _ _ _ _ (s₁.setTop (mkF m 1 #[.val (.int p0), .val (.int p1)] [(.int p0)]))
  refine own_go (fun _ k => XS.iloadN X0.here hx rfl (hb hby d4_1) rfl k) ?_
  show own_Fin _ _ _ _ _ _ _ (s₁.setTop (mkF m 2 #[.val (.int p0), .val (.int p1)] [(.int p1), (.int p0)]))
  by_cases hc1 : p0 < p1
  · refine own_go (fun _ k => XS.icmpYes X0.here hx rfl (pc0 := 2) (pc' := 9) rfl (hb hby d4_2) rfl (tlt hc1).1 (by decide) (by decide) k) ?_
    show own_Fin _ _ _ _ _ _ _ (s₁.setTop (mkF m 9 #[.val (.int p0), .val (.int p1)] []))
    refine own_go (fun _ k => XS.iloadN X0.here hx rfl (hb hby d4_9) rfl k) ?_
    show own_Fin _ _ _ _ _ _ _ (s₁.setTop (mkF m 10 #[.val (.int p0), .val (.int p1)] [(.int p1)]))
    refine own_ret X0 hx hlk Bd.returns rfl (Or.inl ⟨rfl, by simp, _, rfl⟩) (hb hby d4_10) (Nat.le_of_ble_eq_true rfl) (Nat.le_of_ble_eq_true rfl) ?_
    exact ⟨(own_lf_own_f4_1 (p0 := p0) (p1 := p1) hc1), N0, e0⟩
  · refine own_go (fun _ k => XS.icmpNo X0.here hx rfl (hb hby d4_2) rfl (flt hc1).1 k) ?_
    show own_Fin _ _ _ _ _ _ _ (s₁.setTop (mkF m 5 #[.val (.int p0), .val (.int p1)] []))
    refine own_go (fun _ k => XS.iloadN X0.here hx rfl (hb hby d4_5) rfl k) ?_
    show own_Fin _ _ _ _ _ _ _ (s₁.setTop (mkF m 6 #[.val (.int p0), .val (.int p1)] [(.int p0)]))
    refine own_go (fun _ k => XS.goto X0.here hx rfl (pc0 := 6) (pc' := 10) rfl (hb hby d4_6) (by decide) (by decide) k) ?_
    show own_Fin _ _ _ _ _ _ _ (s₁.setTop (mkF m 10 #[.val (.int p0), .val (.int p1)] [(.int p0)]))
    refine own_ret X0 hx hlk Bd.returns rfl (Or.inl ⟨rfl, by simp, _, rfl⟩) (hb hby d4_10) (Nat.le_of_ble_eq_true rfl) (Nat.le_of_ble_eq_true rfl) ?_
    exact ⟨(own_lf_own_f4_2 (p0 := p0) (p1 := p1) hc1), N0, e0⟩
theorem own_mx : own_f4 (3 : Int32) (1 : Int32) = (3 : Int32) := by decide
theorem own_shr (x k : Int32) (n : Nat) (h : k.toBitVec.toNat % 32 = n) (hx : 0 ≤ x.toInt) : (own_iushr x k).toInt = x.toInt / (2 ^ n : Nat) := by
  have r := rng32 x
  cases n with
  | zero =>
    have e : (own_iushr x k).toBitVec = x.toBitVec := by
      show x.toBitVec >>> ((k &&& 31).toBitVec % 32#32) = _
      have e2 : ((k &&& 31).toBitVec % 32#32).toNat = 0 := by
        rw [BitVec.toNat_umod]
        show ((k &&& 31).toBitVec).toNat % 32 = 0
        have e3 : (k &&& 31).toBitVec.toNat = k.toBitVec.toNat % 32 := by
          show (k.toBitVec &&& (31 : Int32).toBitVec).toNat = _
          rw [BitVec.toNat_and, show (31 : Int32).toBitVec.toNat = 2 ^ 5 - 1 from by decide, Nat.and_two_pow_sub_one_eq_mod]
        rw [e3, h]
      rw [BitVec.ushiftRight_eq', e2]; simp
    rw [show own_iushr x k = x from Int32.toBitVec_inj.mp e]
    simp
  | succ n =>
    have s : (own_iushr x k).toInt = (x.toInt % 4294967296) / (2 ^ (n + 1) : Nat) := c_iushr x k (n + 1) h (by omega)
    rw [s, show x.toInt % 4294967296 = x.toInt from by omega]
theorem own_bs4 {g : Nat → Int32} (hp : 0 ≤ (g 2).toInt ∧ (g 2).toInt < 48) : own_iushr (g 2) (4 : Int32) < own_f4 (3 : Int32) (1 : Int32) := by
  rw [own_mx, Int32.lt_iff_toInt_lt, own_shr _ 4 4 (by decide) hp.1, show (3 : Int32).toInt = 3 from by decide, show ((2 ^ 4 : Nat) : Int) = 16 from by decide]
  omega
/-- what bucketStarts is handed: three numbers, ascending, the last one's bucket 0, 1 or 2 -/
def own_okB (g : Nat → Int32) (k : Int32) : Prop := ∃ a b c : Nat, (own_iushr (g 0) k).toInt = a ∧ (own_iushr (g 1) k).toInt = b ∧ (own_iushr (g 2) k).toInt = c ∧ a ≤ b ∧ b ≤ c ∧ c ≤ 2
theorem own_add1 (x : Int32) (n m : Nat) (h : x.toInt = n) (hn : n ≤ 100) (hm : m ≤ 100) : (x + Int32.ofNat m).toInt = ((n + m : Nat) : Int) := by
  have a := c_iadd x (Int32.ofNat m)
  have r := rng32 (x + Int32.ofNat m)
  rw [Int32.toInt_ofNat_small (by omega)] at a
  omega
theorem own_bneg {g : Nat → Int32} {k : Int32} (hp : own_okB g k) : ¬ ((own_iushr (g 2) k) + (2 : Int32)) < 0 := by
  obtain ⟨a, b, c, h0, h1, h2, q⟩ := hp
  have e := own_add1 _ c 2 h2 (by omega) (by decide)
  rw [Int32.lt_iff_toInt_lt, show (0 : Int32).toInt = 0 from by decide]
  have e' : ((own_iushr (g 2) k) + (2 : Int32)).toInt = ((c + 2 : Nat) : Int) := e
  omega
theorem own_bcap {g : Nat → Int32} {k : Int32} (hp : own_okB g k) : ((own_iushr (g 2) k) + (2 : Int32)).toNatClampNeg ≤ 4 := by
  obtain ⟨a, b, c, h0, h1, h2, q⟩ := hp
  have e' : ((own_iushr (g 2) k) + (2 : Int32)).toInt = ((c + 2 : Nat) : Int) := own_add1 _ c 2 h2 (by omega) (by decide)
  simp only [Int32.toNatClampNeg, e']; omega
theorem own_bix (x y : Int32) (n m : Nat) (hx : x.toInt = n) (hy : y.toInt = m) (h : n ≤ m) (hm : m ≤ 2) : ¬ (x + (1 : Int32)) < 0 ∧ (x + (1 : Int32)) < (y + (2 : Int32)) := by
  have e1 : (x + (1 : Int32)).toInt = ((n + 1 : Nat) : Int) := own_add1 x n 1 hx (by omega) (by decide)
  have e2 : (y + (2 : Int32)).toInt = ((m + 2 : Nat) : Int) := own_add1 y m 2 hy (by omega) (by decide)
  simp only [Int32.lt_iff_toInt_lt, show (0 : Int32).toInt = 0 from by decide, e1, e2]
  omega
theorem own_bix0 {g : Nat → Int32} {k : Int32} (hp : own_okB g k) : ¬ ((own_iushr (g 0) k) + (1 : Int32)) < 0 ∧ ((own_iushr (g 0) k) + (1 : Int32)) < ((own_iushr (g 2) k) + (2 : Int32)) := by
  obtain ⟨a, b, c, h0, h1, h2, q⟩ := hp; exact own_bix _ _ a c h0 h2 (by omega) (by omega)
theorem own_bix1 {g : Nat → Int32} {k : Int32} (hp : own_okB g k) : ¬ ((own_iushr (g 1) k) + (1 : Int32)) < 0 ∧ ((own_iushr (g 1) k) + (1 : Int32)) < ((own_iushr (g 2) k) + (2 : Int32)) := by
  obtain ⟨a, b, c, h0, h1, h2, q⟩ := hp; exact own_bix _ _ b c h1 h2 (by omega) (by omega)
theorem own_bix2 {g : Nat → Int32} {k : Int32} (hp : own_okB g k) : ¬ ((own_iushr (g 2) k) + (1 : Int32)) < 0 ∧ ((own_iushr (g 2) k) + (1 : Int32)) < ((own_iushr (g 2) k) + (2 : Int32)) := by
  obtain ⟨a, b, c, h0, h1, h2, q⟩ := hp; exact own_bix _ _ c c h2 h2 (by omega) (by omega)
theorem own_len4 {g : Nat → Int32} {k : Int32} (hp : own_okB g k) (n2 : ¬ ((own_iushr (g 2) k) + (2 : Int32)) = (2 : Int32)) (n3 : ¬ ((own_iushr (g 2) k) + (2 : Int32)) = (3 : Int32)) : ((own_iushr (g 2) k) + (2 : Int32)) = (4 : Int32) := by
  obtain ⟨a, b, c, h0, h1, h2, q⟩ := hp
  have e' : ((own_iushr (g 2) k) + (2 : Int32)).toInt = ((c + 2 : Nat) : Int) := own_add1 _ c 2 h2 (by omega) (by decide)
  have m2 : ((own_iushr (g 2) k) + (2 : Int32)).toInt ≠ 2 := fun z => n2 (Int32.toInt_inj.mp z)
  have m3 : ((own_iushr (g 2) k) + (2 : Int32)).toInt ≠ 3 := fun z => n3 (Int32.toInt_inj.mp z)
  exact Int32.toInt_inj.mp (by rw [show (4 : Int32).toInt = 4 from by decide]; omega)
/-- what bucketStarts leaves: place b tells how many numbers lie in a lower bucket -/
def own_spB (g : Nat → Int32) (k : Int32) (gB : Nat → Int32) : Prop := ∀ b : Nat, (b : Int) < ((own_iushr (g 2) k) + (2 : Int32)).toInt → (gB b).toInt = (if (own_iushr (g 0) k).toInt < b then (1 : Int) else 0) + (if (own_iushr (g 1) k).toInt < b then 1 else 0) + (if (own_iushr (g 2) k).toInt < b then 1 else 0)
theorem own_setv (g : Nat → Int32) (j v : Int32) (n : Nat) (k : Nat) (h : j.toNatClampNeg = k) : own_set g j v n = if n = k then v else g n := by simp only [own_set, h]
theorem own_cl {z : Int32} {k : Nat} (h : z.toInt = k) : z.toNatClampNeg = k := by simp only [Int32.toNatClampNeg, h]; omega
theorem own_f3c {g : Nat → Int32} {k : Int32} {a b c : Nat} (h0 : (own_iushr (g 0) k).toInt = a) (h1 : (own_iushr (g 1) k).toInt = b) (h2 : (own_iushr (g 2) k).toInt = c) (hc : a ≤ 2 ∧ b ≤ 2 ∧ c ≤ 2) {f1 f2 f3 : Nat → Int32}
    (e1 : f1 = (own_set (fun _ => (0 : Int32)) ((own_iushr (g 0) k) + (1 : Int32)) (((fun _ => (0 : Int32)) ((own_iushr (g 0) k) + (1 : Int32)).toNatClampNeg) + (1 : Int32))))
    (e2 : f2 = (own_set f1 ((own_iushr (g 1) k) + (1 : Int32)) ((f1 ((own_iushr (g 1) k) + (1 : Int32)).toNatClampNeg) + (1 : Int32))))
    (e3 : f3 = (own_set f2 ((own_iushr (g 2) k) + (1 : Int32)) ((f2 ((own_iushr (g 2) k) + (1 : Int32)).toNatClampNeg) + (1 : Int32)))) (n : Nat) :
    f3 n = (if n = c + 1 then (if c + 1 = b + 1 then (if b + 1 = a + 1 then (0 + 1 + 1 : Int32) else 0 + 1) else (if c + 1 = a + 1 then 0 + 1 else 0)) + 1 else if n = b + 1 then (if b + 1 = a + 1 then (0 + 1 : Int32) else 0) + 1 else if n = a + 1 then (0 + 1 : Int32) else 0) := by
  have j0 : ((own_iushr (g 0) k) + (1 : Int32)).toNatClampNeg = a + 1 := own_cl (own_add1 _ a 1 h0 (by omega) (by decide))
  have j1 : ((own_iushr (g 1) k) + (1 : Int32)).toNatClampNeg = b + 1 := own_cl (own_add1 _ b 1 h1 (by omega) (by decide))
  have j2 : ((own_iushr (g 2) k) + (1 : Int32)).toNatClampNeg = c + 1 := own_cl (own_add1 _ c 1 h2 (by omega) (by decide))
  subst e3 e2 e1
  simp only [own_set, j0, j1, j2]
  split
  · split <;> split <;> simp_all
  · rfl
theorem own_fin3 (a b c : Nat) (h : a ≤ b ∧ b ≤ c ∧ c ≤ 2) : (a, b, c) ∈ [(0,0,0),(0,0,1),(0,1,1),(1,1,1),(0,0,2),(0,1,2),(0,2,2),(1,1,2),(1,2,2),(2,2,2)] := by
  obtain ⟨h1, h2, h3⟩ := h
  have : a = 0 ∨ a = 1 ∨ a = 2 := by omega
  have : b = 0 ∨ b = 1 ∨ b = 2 := by omega
  have : c = 0 ∨ c = 1 ∨ c = 2 := by omega
  rcases ‹a = 0 ∨ a = 1 ∨ a = 2› with rfl | rfl | rfl <;> rcases ‹b = 0 ∨ b = 1 ∨ b = 2› with rfl | rfl | rfl <;> rcases ‹c = 0 ∨ c = 1 ∨ c = 2› with rfl | rfl | rfl <;> first | (exfalso; omega) | decide
section OwnBS
variable {g : Nat → Int32} {k : Int32} {f1 f2 f3 f4 f5 f6 : Nat → Int32}
theorem own_bspec2 (hp : own_okB g k) (hl : ((own_iushr (g 2) k) + (2 : Int32)) = (2 : Int32))
    (e1 : f1 = (own_set (fun _ => (0 : Int32)) ((own_iushr (g 0) k) + (1 : Int32)) (((fun _ => (0 : Int32)) ((own_iushr (g 0) k) + (1 : Int32)).toNatClampNeg) + (1 : Int32))))
    (e2 : f2 = (own_set f1 ((own_iushr (g 1) k) + (1 : Int32)) ((f1 ((own_iushr (g 1) k) + (1 : Int32)).toNatClampNeg) + (1 : Int32))))
    (e3 : f3 = (own_set f2 ((own_iushr (g 2) k) + (1 : Int32)) ((f2 ((own_iushr (g 2) k) + (1 : Int32)).toNatClampNeg) + (1 : Int32)))) (e4 : f4 = (own_set f3 (1 : Int32) ((f3 1) + (f3 0)))) : own_spB g k f4 := by
  obtain ⟨a, b, c, h0, h1, h2, q⟩ := hp
  have v := own_f3c h0 h1 h2 (by omega) e1 e2 e3
  have e' : ((own_iushr (g 2) k) + (2 : Int32)).toInt = ((c + 2 : Nat) : Int) := own_add1 _ c 2 h2 (by omega) (by decide)
  have l2 : ((own_iushr (g 2) k) + (2 : Int32)).toInt = 2 := by rw [hl]; decide
  intro n hn
  rw [l2] at hn
  rw [h0, h1, h2, e4]
  simp only [own_set, v, show (1 : Int32).toNatClampNeg = 1 from rfl]
  have m := own_fin3 a b c q
  simp only [List.mem_cons, Prod.mk.injEq, List.not_mem_nil, or_false] at m
  have : n = 0 ∨ n = 1 := by omega
  rcases m with ⟨rfl, rfl, rfl⟩ | ⟨rfl, rfl, rfl⟩ | ⟨rfl, rfl, rfl⟩ | ⟨rfl, rfl, rfl⟩ | ⟨rfl, rfl, rfl⟩ | ⟨rfl, rfl, rfl⟩ | ⟨rfl, rfl, rfl⟩ | ⟨rfl, rfl, rfl⟩ | ⟨rfl, rfl, rfl⟩ | ⟨rfl, rfl, rfl⟩ <;> first | (exfalso; omega) | (rcases this with rfl | rfl <;> decide)
theorem own_bspec3 (hp : own_okB g k) (hl : ((own_iushr (g 2) k) + (2 : Int32)) = (3 : Int32))
    (e1 : f1 = (own_set (fun _ => (0 : Int32)) ((own_iushr (g 0) k) + (1 : Int32)) (((fun _ => (0 : Int32)) ((own_iushr (g 0) k) + (1 : Int32)).toNatClampNeg) + (1 : Int32))))
    (e2 : f2 = (own_set f1 ((own_iushr (g 1) k) + (1 : Int32)) ((f1 ((own_iushr (g 1) k) + (1 : Int32)).toNatClampNeg) + (1 : Int32))))
    (e3 : f3 = (own_set f2 ((own_iushr (g 2) k) + (1 : Int32)) ((f2 ((own_iushr (g 2) k) + (1 : Int32)).toNatClampNeg) + (1 : Int32)))) (e4 : f4 = (own_set f3 (1 : Int32) ((f3 1) + (f3 0)))) (e5 : f5 = (own_set f4 (2 : Int32) ((f4 2) + (f4 1)))) : own_spB g k f5 := by
  obtain ⟨a, b, c, h0, h1, h2, q⟩ := hp
  have v := own_f3c h0 h1 h2 (by omega) e1 e2 e3
  have e' : ((own_iushr (g 2) k) + (2 : Int32)).toInt = ((c + 2 : Nat) : Int) := own_add1 _ c 2 h2 (by omega) (by decide)
  have l2 : ((own_iushr (g 2) k) + (2 : Int32)).toInt = 3 := by rw [hl]; decide
  intro n hn
  rw [l2] at hn
  rw [h0, h1, h2, e5, e4]
  simp only [own_set, v, show (1 : Int32).toNatClampNeg = 1 from rfl, show (2 : Int32).toNatClampNeg = 2 from rfl]
  have m := own_fin3 a b c q
  simp only [List.mem_cons, Prod.mk.injEq, List.not_mem_nil, or_false] at m
  have : n = 0 ∨ n = 1 ∨ n = 2 := by omega
  rcases m with ⟨rfl, rfl, rfl⟩ | ⟨rfl, rfl, rfl⟩ | ⟨rfl, rfl, rfl⟩ | ⟨rfl, rfl, rfl⟩ | ⟨rfl, rfl, rfl⟩ | ⟨rfl, rfl, rfl⟩ | ⟨rfl, rfl, rfl⟩ | ⟨rfl, rfl, rfl⟩ | ⟨rfl, rfl, rfl⟩ | ⟨rfl, rfl, rfl⟩ <;> first | (exfalso; omega) | (rcases this with rfl | rfl | rfl <;> decide)
theorem own_bspec4 (hp : own_okB g k) (hl : ((own_iushr (g 2) k) + (2 : Int32)) = (4 : Int32))
    (e1 : f1 = (own_set (fun _ => (0 : Int32)) ((own_iushr (g 0) k) + (1 : Int32)) (((fun _ => (0 : Int32)) ((own_iushr (g 0) k) + (1 : Int32)).toNatClampNeg) + (1 : Int32))))
    (e2 : f2 = (own_set f1 ((own_iushr (g 1) k) + (1 : Int32)) ((f1 ((own_iushr (g 1) k) + (1 : Int32)).toNatClampNeg) + (1 : Int32))))
    (e3 : f3 = (own_set f2 ((own_iushr (g 2) k) + (1 : Int32)) ((f2 ((own_iushr (g 2) k) + (1 : Int32)).toNatClampNeg) + (1 : Int32)))) (e4 : f4 = (own_set f3 (1 : Int32) ((f3 1) + (f3 0)))) (e5 : f5 = (own_set f4 (2 : Int32) ((f4 2) + (f4 1)))) (e6 : f6 = (own_set f5 (3 : Int32) ((f5 3) + (f5 2)))) : own_spB g k f6 := by
  obtain ⟨a, b, c, h0, h1, h2, q⟩ := hp
  have v := own_f3c h0 h1 h2 (by omega) e1 e2 e3
  have e' : ((own_iushr (g 2) k) + (2 : Int32)).toInt = ((c + 2 : Nat) : Int) := own_add1 _ c 2 h2 (by omega) (by decide)
  have l2 : ((own_iushr (g 2) k) + (2 : Int32)).toInt = 4 := by rw [hl]; decide
  intro n hn
  rw [l2] at hn
  rw [h0, h1, h2, e6, e5, e4]
  simp only [own_set, v, show (1 : Int32).toNatClampNeg = 1 from rfl, show (2 : Int32).toNatClampNeg = 2 from rfl, show (3 : Int32).toNatClampNeg = 3 from rfl]
  have m := own_fin3 a b c q
  simp only [List.mem_cons, Prod.mk.injEq, List.not_mem_nil, or_false] at m
  have : n = 0 ∨ n = 1 ∨ n = 2 ∨ n = 3 := by omega
  rcases m with ⟨rfl, rfl, rfl⟩ | ⟨rfl, rfl, rfl⟩ | ⟨rfl, rfl, rfl⟩ | ⟨rfl, rfl, rfl⟩ | ⟨rfl, rfl, rfl⟩ | ⟨rfl, rfl, rfl⟩ | ⟨rfl, rfl, rfl⟩ | ⟨rfl, rfl, rfl⟩ | ⟨rfl, rfl, rfl⟩ | ⟨rfl, rfl, rfl⟩ <;> first | (exfalso; omega) | (rcases this with rfl | rfl | rfl | rfl <;> decide)
end OwnBS

theorem own_pd9 : parseMethodDescriptor "(II)I" = some ⟨[.int, .int], some .int⟩ := by decide +kernel
theorem d3_0 : decode prog_2_method_2_code 0 = .ok (.aload_n 0, 1) := by decide +kernel
theorem d3_1 : decode prog_2_method_2_code 1 = .ok (.arraylength, 1) := by decide +kernel
theorem d3_2 : decode prog_2_method_2_code 2 = .ok (.ifCond .ne 7, 3) := by decide +kernel
theorem d3_9 : decode prog_2_method_2_code 9 = .ok (.aload_n 0, 1) := by decide +kernel
theorem d3_10 : decode prog_2_method_2_code 10 = .ok (.aload_n 0, 1) := by decide +kernel
theorem d3_11 : decode prog_2_method_2_code 11 = .ok (.arraylength, 1) := by decide +kernel
theorem d3_12 : decode prog_2_method_2_code 12 = .ok (.iconst 1, 1) := by decide +kernel
theorem d3_13 : decode prog_2_method_2_code 13 = .ok (.isub, 1) := by decide +kernel
theorem d3_14 : decode prog_2_method_2_code 14 = .ok (.iaload, 1) := by decide +kernel
theorem d3_15 : decode prog_2_method_2_code 15 = .ok (.istore_n 1, 1) := by decide +kernel
theorem d3_16 : decode prog_2_method_2_code 16 = .ok (.iconst 0, 1) := by decide +kernel
theorem d3_17 : decode prog_2_method_2_code 17 = .ok (.istore_n 2, 1) := by decide +kernel
theorem d3_18 : decode prog_2_method_2_code 18 = .ok (.iload_n 1, 1) := by decide +kernel
theorem d3_19 : decode prog_2_method_2_code 19 = .ok (.iload_n 2, 1) := by decide +kernel
theorem d3_20 : decode prog_2_method_2_code 20 = .ok (.iushr, 1) := by decide +kernel
theorem d3_21 : decode prog_2_method_2_code 21 = .ok (.aload_n 0, 1) := by decide +kernel
theorem d3_22 : decode prog_2_method_2_code 22 = .ok (.arraylength, 1) := by decide +kernel
theorem d3_23 : decode prog_2_method_2_code 23 = .ok (.iconst 1, 1) := by decide +kernel
theorem d3_24 : decode prog_2_method_2_code 24 = .ok (.invokestatic 45, 3) := by decide +kernel
theorem d3_27 : decode prog_2_method_2_code 27 = .ok (.if_icmp .lt 9, 3) := by decide +kernel
theorem d3_30 : decode prog_2_method_2_code 30 = .ok (.iinc 2 1, 3) := by decide +kernel
theorem d3_33 : decode prog_2_method_2_code 33 = .ok (.goto (-15), 3) := by decide +kernel
theorem d3_36 : decode prog_2_method_2_code 36 = .ok (.iload_n 2, 1) := by decide +kernel
theorem d3_37 : decode prog_2_method_2_code 37 = .ok (.ireturn, 1) := by decide +kernel
theorem pn_3 : plainName "com/example/reachability/reachability/CandidateList" = true := by first | (simp [plainName, overriddenIn]; done) | decide +kernel
theorem ef_3 (m : MethodId) (r0 : Addr) : entryFrame m #[(.ref r0)] 3 = mkF m 0 #[.val (.ref r0), .unset, .unset] [] := by first | (simp [entryFrame, mkF, argsToLocals, Value.category]; done) | rfl
def rm3_room : Room := { frames := 1, cells := 0, slots := 0, locals := 14 }
def own_f3 (xg : Nat → Int32) : Int32 := (if (own_iushr (xg 2) (0 : Int32)) < (own_f4 (3 : Int32) (1 : Int32)) then ((0 : Int32)) else ((if (own_iushr (xg 2) (1 : Int32)) < (own_f4 (3 : Int32) (1 : Int32)) then ((1 : Int32)) else ((if (own_iushr (xg 2) (2 : Int32)) < (own_f4 (3 : Int32) (1 : Int32)) then ((2 : Int32)) else ((if (own_iushr (xg 2) (3 : Int32)) < (own_f4 (3 : Int32) (1 : Int32)) then ((3 : Int32)) else ((4 : Int32)))))))))
def Qrm3 (Z : State) (r0 : Addr) (xg : Nat → Int32) (h0 : Heap) (n0 : Nat) (v : Option Value) (h : Heap) (L : List Loc) : Prop := v = some (.int (own_f3 xg)) ∧ Fr n0 L ∧ h = h0
theorem own_lf_own_f3_1 {xg : Nat → Int32} (hc2 : (own_iushr (xg 2) (0 : Int32)) < (own_f4 (3 : Int32) (1 : Int32))) : (some (.int (0 : Int32)) : Option Value) = some (.int (own_f3 xg)) := by
  first | (simp only [own_f3, if_pos hc2]; done) | (simp only [own_f3, if_pos hc2]; rfl) | rfl
theorem own_lf_own_f3_2 {xg : Nat → Int32} (hc2 : ¬ ((own_iushr (xg 2) (0 : Int32)) < (own_f4 (3 : Int32) (1 : Int32)))) (hc4 : (own_iushr (xg 2) (1 : Int32)) < (own_f4 (3 : Int32) (1 : Int32))) : (some (.int (1 : Int32)) : Option Value) = some (.int (own_f3 xg)) := by
  first | (simp only [own_f3, if_neg hc2, if_pos hc4]; done) | (simp only [own_f3, if_neg hc2, if_pos hc4]; rfl) | rfl
theorem own_lf_own_f3_3 {xg : Nat → Int32} (hc2 : ¬ ((own_iushr (xg 2) (0 : Int32)) < (own_f4 (3 : Int32) (1 : Int32)))) (hc4 : ¬ ((own_iushr (xg 2) (1 : Int32)) < (own_f4 (3 : Int32) (1 : Int32)))) (hc6 : (own_iushr (xg 2) (2 : Int32)) < (own_f4 (3 : Int32) (1 : Int32))) : (some (.int (2 : Int32)) : Option Value) = some (.int (own_f3 xg)) := by
  first | (simp only [own_f3, if_neg hc2, if_neg hc4, if_pos hc6]; done) | (simp only [own_f3, if_neg hc2, if_neg hc4, if_pos hc6]; rfl) | rfl
theorem own_lf_own_f3_4 {xg : Nat → Int32} (hc2 : ¬ ((own_iushr (xg 2) (0 : Int32)) < (own_f4 (3 : Int32) (1 : Int32)))) (hc4 : ¬ ((own_iushr (xg 2) (1 : Int32)) < (own_f4 (3 : Int32) (1 : Int32)))) (hc6 : ¬ ((own_iushr (xg 2) (2 : Int32)) < (own_f4 (3 : Int32) (1 : Int32)))) (hc8 : (own_iushr (xg 2) (3 : Int32)) < (own_f4 (3 : Int32) (1 : Int32))) : (some (.int (3 : Int32)) : Option Value) = some (.int (own_f3 xg)) := by
  first | (simp only [own_f3, if_neg hc2, if_neg hc4, if_neg hc6, if_pos hc8]; done) | (simp only [own_f3, if_neg hc2, if_neg hc4, if_neg hc6, if_pos hc8]; rfl) | rfl
theorem own_lf_own_f3_5 {xg : Nat → Int32} (hc2 : ¬ ((own_iushr (xg 2) (0 : Int32)) < (own_f4 (3 : Int32) (1 : Int32)))) (hc4 : ¬ ((own_iushr (xg 2) (1 : Int32)) < (own_f4 (3 : Int32) (1 : Int32)))) (hc6 : ¬ ((own_iushr (xg 2) (2 : Int32)) < (own_f4 (3 : Int32) (1 : Int32)))) (hc8 : ¬ ((own_iushr (xg 2) (3 : Int32)) < (own_f4 (3 : Int32) (1 : Int32)))) : (some (.int (4 : Int32)) : Option Value) = some (.int (own_f3 xg)) := by
  first | (simp only [own_f3, if_neg hc2, if_neg hc4, if_neg hc6, if_neg hc8]; done) | (simp only [own_f3, if_neg hc2, if_neg hc4, if_neg hc6, if_neg hc8]; rfl) | rfl
set_option maxRecDepth 65536 in
set_option maxHeartbeats 40000000 in
theorem rm3 (l : Launch) (Z : State) (a0 : Array Value) (hw : ∀ d ∈ tables_1, d.before a0 Z = true) (ws : List Jvm.Cond) (r0 : Addr) (xg : Nat → Int32) (h0 : Heap) (n0 : Nat) (Z0 : n0 ≤ h0.size) (A_r0_0 : own_Arf Z h0 r0 .int (3 : Int32) (fun i => .int (xg i))) (hp : 0 ≤ (xg 2).toInt ∧ (xg 2).toInt < 48) :
    MetFree l (⟨"com/example/reachability/reachability/CandidateList", "bucketShift", "([I)I"⟩ : MethodName) (head1 (Jvm.Cond.code (⟨"com/example/reachability/reachability/CandidateList", "bucketShift", "([I)I"⟩ : MethodName) prog_2_method_2_code 3 (some .int) :: ws) rm3_room) (fun a U => a = #[(.ref r0)] ∧ Z.Warmed39 U.vm ∧ U.heap = h0) (fun _ _ _ _ _ => True) (fun _ U o U' => ∃ v L, o = .returned v ∧ Qrm3 Z r0 xg h0 n0 v U'.heap L ∧ FrameEnd U o U' L rm3_room.cells rm3_room.slots) := by
  refine MetFree.of_bodySF (plainFor_of_name pn_3) hisR ?_
  intro p e s m args below meth c s₁ Bd hml0 hP hK
  obtain ⟨rfl, hZ, hh⟩ := hP
  have hx := Bd.exec
  have hby := Bd.bytes
  have hml : c.maxLocals = 3 := hml0
  have hown : s.vm.findClass "com/example/reachability/reachability/CandidateList" = some m.cls := findClass_of_methodNamed Bd.named
  have hnm := (name_of_methodNamed Bd.named Bd.method).1
  have hlk : meth.locks = false := BodyLoose.notSynchronized Bd
  have X0 : Stand p l e rm3_room s m #[(.ref r0)] below meth c s₁ [] 0 0 := Stand.of_body Bd
  have e0 : s₁.heap = h0 := by rw [← hh, Bd.state]; rfl
  have N0 := Fr.nil n0
  show own_Fin p.tables e below s (Qrm3 Z r0 xg h0 n0) rm3_room.cells rm3_room.slots (s₁.setTop (entryFrame m #[(.ref r0)] 3))
  rw [ef_3]
  show own_Fin _ _ _ _ _ _ _ (s₁.setTop (mkF m 0 #[.val (.ref r0), .unset, .unset] []))
  refine own_go (fun _ k => XS.aloadN X0.here hx rfl (hb hby d3_0) rfl rfl k) ?_
  show own_Fin _ _ _ _ _ _ _ (s₁.setTop (mkF m 1 #[.val (.ref r0), .unset, .unset] [(.ref r0)]))
  refine own_go (fun tg k => own_alen X0 hx hZ e0 A_r0_0 (g := (mkF m 1 #[.val (.ref r0), .unset, .unset] [(.ref r0)])) rfl rfl (hb hby d3_1) tg k) ?_
  show own_Fin _ _ _ _ _ _ _ (s₁.setTop (mkF m 2 #[.val (.ref r0), .unset, .unset] [(.int (3 : Int32))]))
  refine own_go (fun _ k => XS.ifYes X0.here hx rfl (pc0 := 2) (pc' := 9) rfl (hb hby d3_2) rfl ((if0 _ _).trans (feq (by decide)).2) (by decide) (by decide) k) ?_
  show own_Fin _ _ _ _ _ _ _ (s₁.setTop (mkF m 9 #[.val (.ref r0), .unset, .unset] []))
  refine own_go (fun _ k => XS.aloadN X0.here hx rfl (hb hby d3_9) rfl rfl k) ?_
  show own_Fin _ _ _ _ _ _ _ (s₁.setTop (mkF m 10 #[.val (.ref r0), .unset, .unset] [(.ref r0)]))
  refine own_go (fun _ k => XS.aloadN X0.here hx rfl (hb hby d3_10) rfl rfl k) ?_
  show own_Fin _ _ _ _ _ _ _ (s₁.setTop (mkF m 11 #[.val (.ref r0), .unset, .unset] [(.ref r0), (.ref r0)]))
  refine own_go (fun tg k => own_alen X0 hx hZ e0 A_r0_0 (g := (mkF m 11 #[.val (.ref r0), .unset, .unset] [(.ref r0), (.ref r0)])) rfl rfl (hb hby d3_11) tg k) ?_
  show own_Fin _ _ _ _ _ _ _ (s₁.setTop (mkF m 12 #[.val (.ref r0), .unset, .unset] [(.int (3 : Int32)), (.ref r0)]))
  refine own_go (fun _ k => XS.iconst X0.here hx rfl (hb hby d3_12) k) ?_
  show own_Fin _ _ _ _ _ _ _ (s₁.setTop (mkF m 13 #[.val (.ref r0), .unset, .unset] [(.int (1 : Int32)), (.int (3 : Int32)), (.ref r0)]))
  refine own_go (fun _ k => XS.isub X0.here hx rfl (hb hby d3_13) rfl k) ?_
  show own_Fin _ _ _ _ _ _ _ (s₁.setTop (mkF m 14 #[.val (.ref r0), .unset, .unset] [(.int (2 : Int32)), (.ref r0)]))
  refine own_go (fun tg k => own_iaload X0 hx hZ e0 A_r0_0 (j := (2 : Int32)) ⟨by decide, by decide⟩ (x := (xg 2)) rfl (g := (mkF m 14 #[.val (.ref r0), .unset, .unset] [(.int (2 : Int32)), (.ref r0)])) rfl rfl (hb hby d3_14) tg k) ?_
  show own_Fin _ _ _ _ _ _ _ (s₁.setTop (mkF m 15 #[.val (.ref r0), .unset, .unset] [(.int (xg 2))]))
  refine own_go (fun _ k => XS.istoreN X0.here hx rfl (hb hby d3_15) rfl (l' := #[.val (.ref r0), .val (.int (xg 2)), .unset]) rfl k) ?_
  show own_Fin _ _ _ _ _ _ _ (s₁.setTop (mkF m 16 #[.val (.ref r0), .val (.int (xg 2)), .unset] []))
  refine own_go (fun _ k => XS.iconst X0.here hx rfl (hb hby d3_16) k) ?_
  show own_Fin _ _ _ _ _ _ _ (s₁.setTop (mkF m 17 #[.val (.ref r0), .val (.int (xg 2)), .unset] [(.int (0 : Int32))]))
  refine own_go (fun _ k => XS.istoreN X0.here hx rfl (hb hby d3_17) rfl (l' := #[.val (.ref r0), .val (.int (xg 2)), .val (.int (0 : Int32))]) rfl k) ?_
  show own_Fin _ _ _ _ _ _ _ (s₁.setTop (mkF m 18 #[.val (.ref r0), .val (.int (xg 2)), .val (.int (0 : Int32))] []))
  refine own_go (fun _ k => XS.iloadN X0.here hx rfl (hb hby d3_18) rfl k) ?_
  show own_Fin _ _ _ _ _ _ _ (s₁.setTop (mkF m 19 #[.val (.ref r0), .val (.int (xg 2)), .val (.int (0 : Int32))] [(.int (xg 2))]))
  refine own_go (fun _ k => XS.iloadN X0.here hx rfl (hb hby d3_19) rfl k) ?_
  show own_Fin _ _ _ _ _ _ _ (s₁.setTop (mkF m 20 #[.val (.ref r0), .val (.int (xg 2)), .val (.int (0 : Int32))] [(.int (0 : Int32)), (.int (xg 2))]))
  refine own_go (fun _ k => XS.iushr X0.here hx rfl (hb hby d3_20) rfl k) ?_
  show own_Fin _ _ _ _ _ _ _ (s₁.setTop (mkF m 21 #[.val (.ref r0), .val (.int (xg 2)), .val (.int (0 : Int32))] [(.int (own_iushr (xg 2) (0 : Int32)))]))
  refine own_go (fun _ k => XS.aloadN X0.here hx rfl (hb hby d3_21) rfl rfl k) ?_
  show own_Fin _ _ _ _ _ _ _ (s₁.setTop (mkF m 22 #[.val (.ref r0), .val (.int (xg 2)), .val (.int (0 : Int32))] [(.ref r0), (.int (own_iushr (xg 2) (0 : Int32)))]))
  refine own_go (fun tg k => own_alen X0 hx hZ e0 A_r0_0 (g := (mkF m 22 #[.val (.ref r0), .val (.int (xg 2)), .val (.int (0 : Int32))] [(.ref r0), (.int (own_iushr (xg 2) (0 : Int32)))])) rfl rfl (hb hby d3_22) tg k) ?_
  show own_Fin _ _ _ _ _ _ _ (s₁.setTop (mkF m 23 #[.val (.ref r0), .val (.int (xg 2)), .val (.int (0 : Int32))] [(.int (3 : Int32)), (.int (own_iushr (xg 2) (0 : Int32)))]))
  refine own_go (fun _ k => XS.iconst X0.here hx rfl (hb hby d3_23) k) ?_
  show own_Fin _ _ _ _ _ _ _ (s₁.setTop (mkF m 24 #[.val (.ref r0), .val (.int (xg 2)), .val (.int (0 : Int32))] [(.int (1 : Int32)), (.int (3 : Int32)), (.int (own_iushr (xg 2) (0 : Int32)))]))
  obtain ⟨_, _, ⟨T1, L1, k1, n1⟩, -, X1, ⟨Lc1, hQ1, l1, y1, z1⟩, st1⟩ := Jvm.LawKit.callS X0 hx (y := (⟨"java/lang/Math", "max", "(II)I"⟩ : MethodName)) hown (mvT hZ (hw _ (List.mem_of_getElem? (i := 27) rfl))) (mvT hZ (hw _ (List.mem_of_getElem? (i := 28) rfl))) (mvT hZ (hw _ (List.mem_of_getElem? (i := 29) rfl))) (mvT hZ (hw _ (List.mem_of_getElem? (i := 30) rfl))) (by decide) (backOf (W := 1) (rm4 l Z a0 hw [] (3 : Int32) (1 : Int32) h0 n0 Z0) hZ (hw _ (List.mem_of_getElem? (i := 30) rfl)) (hw _ (List.mem_of_getElem? (i := 29) rfl)) (by decide) (by decide)) (g := (mkF m 24 #[.val (.ref r0), .val (.int (xg 2)), .val (.int (0 : Int32))] [(.int (1 : Int32)), (.int (3 : Int32)), (.int (own_iushr (xg 2) (0 : Int32)))])) rfl (by rw [hml]; rfl) (argsL := [(.int (3 : Int32)), (.int (1 : Int32))]) (rest := [(.int (own_iushr (xg 2) (0 : Int32)))]) (lenOf own_pd9 rfl) rfl (by show 2 * 0 + _ ≤ _; exact Nat.le_of_eq rfl) (hb hby d3_24) (fun _ _ => ⟨rfl, e0, (by decide : 0 + 0 ≤ _), (by decide : 0 + 0 ≤ _)⟩)
  dsimp only [Pt.U, Pt.locs, Pt.cells, Pt.slots] at X1 l1 y1 z1 st1 hQ1
  replace y1 : 0 = k1 := y1.symm
  replace z1 : 0 = n1 := z1.symm
  subst y1 z1
  obtain ⟨rfl, N1q, e1⟩ := hQ1
  have N1 : Fr n0 L1 := by rw [l1]; exact Fr.app N0 N1q
  refine own_go (fun tg k => st1 tg k) ?_
  show own_Fin _ _ _ _ _ _ _ (T1.setTop (mkF m 27 #[.val (.ref r0), .val (.int (xg 2)), .val (.int (0 : Int32))] [(.int (own_f4 (3 : Int32) (1 : Int32))), (.int (own_iushr (xg 2) (0 : Int32)))]))
  by_cases hc2 : (own_iushr (xg 2) (0 : Int32)) < (own_f4 (3 : Int32) (1 : Int32))
  · refine own_go (fun _ k => XS.icmpYes X1.here hx rfl (pc0 := 27) (pc' := 36) rfl (hb hby d3_27) rfl (tlt hc2).1 (by decide) (by decide) k) ?_
    show own_Fin _ _ _ _ _ _ _ (T1.setTop (mkF m 36 #[.val (.ref r0), .val (.int (xg 2)), .val (.int (0 : Int32))] []))
    refine own_go (fun _ k => XS.iloadN X1.here hx rfl (hb hby d3_36) rfl k) ?_
    show own_Fin _ _ _ _ _ _ _ (T1.setTop (mkF m 37 #[.val (.ref r0), .val (.int (xg 2)), .val (.int (0 : Int32))] [(.int (0 : Int32))]))
    refine own_ret X1 hx hlk Bd.returns rfl (Or.inl ⟨rfl, by simp, _, rfl⟩) (hb hby d3_37) (Nat.le_of_ble_eq_true rfl) (Nat.le_of_ble_eq_true rfl) ?_
    refine ⟨(own_lf_own_f3_1 (xg := xg) hc2), N1, e1⟩
  · refine own_go (fun _ k => XS.icmpNo X1.here hx rfl (hb hby d3_27) rfl (flt hc2).1 k) ?_
    show own_Fin _ _ _ _ _ _ _ (T1.setTop (mkF m 30 #[.val (.ref r0), .val (.int (xg 2)), .val (.int (0 : Int32))] []))
    refine own_go (fun _ k => XS.iinc X1.here hx rfl (hb hby d3_30) rfl (l' := #[.val (.ref r0), .val (.int (xg 2)), .val (.int (1 : Int32))]) rfl k) ?_
    show own_Fin _ _ _ _ _ _ _ (T1.setTop (mkF m 33 #[.val (.ref r0), .val (.int (xg 2)), .val (.int (1 : Int32))] []))
    refine own_go (fun _ k => XS.goto X1.here hx rfl (pc0 := 33) (pc' := 18) rfl (hb hby d3_33) (by decide) (by decide) k) ?_
    show own_Fin _ _ _ _ _ _ _ (T1.setTop (mkF m 18 #[.val (.ref r0), .val (.int (xg 2)), .val (.int (1 : Int32))] []))
    refine own_go (fun _ k => XS.iloadN X1.here hx rfl (hb hby d3_18) rfl k) ?_
    show own_Fin _ _ _ _ _ _ _ (T1.setTop (mkF m 19 #[.val (.ref r0), .val (.int (xg 2)), .val (.int (1 : Int32))] [(.int (xg 2))]))
    refine own_go (fun _ k => XS.iloadN X1.here hx rfl (hb hby d3_19) rfl k) ?_
    show own_Fin _ _ _ _ _ _ _ (T1.setTop (mkF m 20 #[.val (.ref r0), .val (.int (xg 2)), .val (.int (1 : Int32))] [(.int (1 : Int32)), (.int (xg 2))]))
    refine own_go (fun _ k => XS.iushr X1.here hx rfl (hb hby d3_20) rfl k) ?_
    show own_Fin _ _ _ _ _ _ _ (T1.setTop (mkF m 21 #[.val (.ref r0), .val (.int (xg 2)), .val (.int (1 : Int32))] [(.int (own_iushr (xg 2) (1 : Int32)))]))
    refine own_go (fun _ k => XS.aloadN X1.here hx rfl (hb hby d3_21) rfl rfl k) ?_
    show own_Fin _ _ _ _ _ _ _ (T1.setTop (mkF m 22 #[.val (.ref r0), .val (.int (xg 2)), .val (.int (1 : Int32))] [(.ref r0), (.int (own_iushr (xg 2) (1 : Int32)))]))
    refine own_go (fun tg k => own_alen X1 hx hZ e1 A_r0_0 (g := (mkF m 22 #[.val (.ref r0), .val (.int (xg 2)), .val (.int (1 : Int32))] [(.ref r0), (.int (own_iushr (xg 2) (1 : Int32)))])) rfl rfl (hb hby d3_22) tg k) ?_
    show own_Fin _ _ _ _ _ _ _ (T1.setTop (mkF m 23 #[.val (.ref r0), .val (.int (xg 2)), .val (.int (1 : Int32))] [(.int (3 : Int32)), (.int (own_iushr (xg 2) (1 : Int32)))]))
    refine own_go (fun _ k => XS.iconst X1.here hx rfl (hb hby d3_23) k) ?_
    show own_Fin _ _ _ _ _ _ _ (T1.setTop (mkF m 24 #[.val (.ref r0), .val (.int (xg 2)), .val (.int (1 : Int32))] [(.int (1 : Int32)), (.int (3 : Int32)), (.int (own_iushr (xg 2) (1 : Int32)))]))
    obtain ⟨_, _, ⟨T3, L3, k3, n3⟩, -, X3, ⟨Lc3, hQ3, l3, y3, z3⟩, st3⟩ := Jvm.LawKit.callS X1 hx (y := (⟨"java/lang/Math", "max", "(II)I"⟩ : MethodName)) hown (mvT hZ (hw _ (List.mem_of_getElem? (i := 27) rfl))) (mvT hZ (hw _ (List.mem_of_getElem? (i := 28) rfl))) (mvT hZ (hw _ (List.mem_of_getElem? (i := 29) rfl))) (mvT hZ (hw _ (List.mem_of_getElem? (i := 30) rfl))) (by decide) (backOf (W := 1) (rm4 l Z a0 hw [] (3 : Int32) (1 : Int32) h0 n0 Z0) hZ (hw _ (List.mem_of_getElem? (i := 30) rfl)) (hw _ (List.mem_of_getElem? (i := 29) rfl)) (by decide) (by decide)) (g := (mkF m 24 #[.val (.ref r0), .val (.int (xg 2)), .val (.int (1 : Int32))] [(.int (1 : Int32)), (.int (3 : Int32)), (.int (own_iushr (xg 2) (1 : Int32)))])) rfl (by rw [hml]; rfl) (argsL := [(.int (3 : Int32)), (.int (1 : Int32))]) (rest := [(.int (own_iushr (xg 2) (1 : Int32)))]) (lenOf own_pd9 rfl) rfl (by show 2 * 0 + _ ≤ _; exact Nat.le_of_eq rfl) (hb hby d3_24) (fun _ _ => ⟨rfl, e1, (by decide : 0 + 0 ≤ _), (by decide : 0 + 0 ≤ _)⟩)
    dsimp only [Pt.U, Pt.locs, Pt.cells, Pt.slots] at X3 l3 y3 z3 st3 hQ3
    replace y3 : 0 = k3 := y3.symm
    replace z3 : 0 = n3 := z3.symm
    subst y3 z3
    obtain ⟨rfl, N3q, e3⟩ := hQ3
    have N3 : Fr n0 L3 := by rw [l3]; exact Fr.app N1 N3q
    refine own_go (fun tg k => st3 tg k) ?_
    show own_Fin _ _ _ _ _ _ _ (T3.setTop (mkF m 27 #[.val (.ref r0), .val (.int (xg 2)), .val (.int (1 : Int32))] [(.int (own_f4 (3 : Int32) (1 : Int32))), (.int (own_iushr (xg 2) (1 : Int32)))]))
    by_cases hc4 : (own_iushr (xg 2) (1 : Int32)) < (own_f4 (3 : Int32) (1 : Int32))
    · refine own_go (fun _ k => XS.icmpYes X3.here hx rfl (pc0 := 27) (pc' := 36) rfl (hb hby d3_27) rfl (tlt hc4).1 (by decide) (by decide) k) ?_
      show own_Fin _ _ _ _ _ _ _ (T3.setTop (mkF m 36 #[.val (.ref r0), .val (.int (xg 2)), .val (.int (1 : Int32))] []))
      refine own_go (fun _ k => XS.iloadN X3.here hx rfl (hb hby d3_36) rfl k) ?_
      show own_Fin _ _ _ _ _ _ _ (T3.setTop (mkF m 37 #[.val (.ref r0), .val (.int (xg 2)), .val (.int (1 : Int32))] [(.int (1 : Int32))]))
      refine own_ret X3 hx hlk Bd.returns rfl (Or.inl ⟨rfl, by simp, _, rfl⟩) (hb hby d3_37) (Nat.le_of_ble_eq_true rfl) (Nat.le_of_ble_eq_true rfl) ?_
      refine ⟨(own_lf_own_f3_2 (xg := xg) hc2 hc4), N3, e3⟩
    · refine own_go (fun _ k => XS.icmpNo X3.here hx rfl (hb hby d3_27) rfl (flt hc4).1 k) ?_
      show own_Fin _ _ _ _ _ _ _ (T3.setTop (mkF m 30 #[.val (.ref r0), .val (.int (xg 2)), .val (.int (1 : Int32))] []))
      refine own_go (fun _ k => XS.iinc X3.here hx rfl (hb hby d3_30) rfl (l' := #[.val (.ref r0), .val (.int (xg 2)), .val (.int (2 : Int32))]) rfl k) ?_
      show own_Fin _ _ _ _ _ _ _ (T3.setTop (mkF m 33 #[.val (.ref r0), .val (.int (xg 2)), .val (.int (2 : Int32))] []))
      refine own_go (fun _ k => XS.goto X3.here hx rfl (pc0 := 33) (pc' := 18) rfl (hb hby d3_33) (by decide) (by decide) k) ?_
      show own_Fin _ _ _ _ _ _ _ (T3.setTop (mkF m 18 #[.val (.ref r0), .val (.int (xg 2)), .val (.int (2 : Int32))] []))
      refine own_go (fun _ k => XS.iloadN X3.here hx rfl (hb hby d3_18) rfl k) ?_
      show own_Fin _ _ _ _ _ _ _ (T3.setTop (mkF m 19 #[.val (.ref r0), .val (.int (xg 2)), .val (.int (2 : Int32))] [(.int (xg 2))]))
      refine own_go (fun _ k => XS.iloadN X3.here hx rfl (hb hby d3_19) rfl k) ?_
      show own_Fin _ _ _ _ _ _ _ (T3.setTop (mkF m 20 #[.val (.ref r0), .val (.int (xg 2)), .val (.int (2 : Int32))] [(.int (2 : Int32)), (.int (xg 2))]))
      refine own_go (fun _ k => XS.iushr X3.here hx rfl (hb hby d3_20) rfl k) ?_
      show own_Fin _ _ _ _ _ _ _ (T3.setTop (mkF m 21 #[.val (.ref r0), .val (.int (xg 2)), .val (.int (2 : Int32))] [(.int (own_iushr (xg 2) (2 : Int32)))]))
      refine own_go (fun _ k => XS.aloadN X3.here hx rfl (hb hby d3_21) rfl rfl k) ?_
      show own_Fin _ _ _ _ _ _ _ (T3.setTop (mkF m 22 #[.val (.ref r0), .val (.int (xg 2)), .val (.int (2 : Int32))] [(.ref r0), (.int (own_iushr (xg 2) (2 : Int32)))]))
      refine own_go (fun tg k => own_alen X3 hx hZ e3 A_r0_0 (g := (mkF m 22 #[.val (.ref r0), .val (.int (xg 2)), .val (.int (2 : Int32))] [(.ref r0), (.int (own_iushr (xg 2) (2 : Int32)))])) rfl rfl (hb hby d3_22) tg k) ?_
      show own_Fin _ _ _ _ _ _ _ (T3.setTop (mkF m 23 #[.val (.ref r0), .val (.int (xg 2)), .val (.int (2 : Int32))] [(.int (3 : Int32)), (.int (own_iushr (xg 2) (2 : Int32)))]))
      refine own_go (fun _ k => XS.iconst X3.here hx rfl (hb hby d3_23) k) ?_
      show own_Fin _ _ _ _ _ _ _ (T3.setTop (mkF m 24 #[.val (.ref r0), .val (.int (xg 2)), .val (.int (2 : Int32))] [(.int (1 : Int32)), (.int (3 : Int32)), (.int (own_iushr (xg 2) (2 : Int32)))]))
      obtain ⟨_, _, ⟨T5, L5, k5, n5⟩, -, X5, ⟨Lc5, hQ5, l5, y5, z5⟩, st5⟩ := Jvm.LawKit.callS X3 hx (y := (⟨"java/lang/Math", "max", "(II)I"⟩ : MethodName)) hown (mvT hZ (hw _ (List.mem_of_getElem? (i := 27) rfl))) (mvT hZ (hw _ (List.mem_of_getElem? (i := 28) rfl))) (mvT hZ (hw _ (List.mem_of_getElem? (i := 29) rfl))) (mvT hZ (hw _ (List.mem_of_getElem? (i := 30) rfl))) (by decide) (backOf (W := 1) (rm4 l Z a0 hw [] (3 : Int32) (1 : Int32) h0 n0 Z0) hZ (hw _ (List.mem_of_getElem? (i := 30) rfl)) (hw _ (List.mem_of_getElem? (i := 29) rfl)) (by decide) (by decide)) (g := (mkF m 24 #[.val (.ref r0), .val (.int (xg 2)), .val (.int (2 : Int32))] [(.int (1 : Int32)), (.int (3 : Int32)), (.int (own_iushr (xg 2) (2 : Int32)))])) rfl (by rw [hml]; rfl) (argsL := [(.int (3 : Int32)), (.int (1 : Int32))]) (rest := [(.int (own_iushr (xg 2) (2 : Int32)))]) (lenOf own_pd9 rfl) rfl (by show 2 * 0 + _ ≤ _; exact Nat.le_of_eq rfl) (hb hby d3_24) (fun _ _ => ⟨rfl, e3, (by decide : 0 + 0 ≤ _), (by decide : 0 + 0 ≤ _)⟩)
      dsimp only [Pt.U, Pt.locs, Pt.cells, Pt.slots] at X5 l5 y5 z5 st5 hQ5
      replace y5 : 0 = k5 := y5.symm
      replace z5 : 0 = n5 := z5.symm
      subst y5 z5
      obtain ⟨rfl, N5q, e5⟩ := hQ5
      have N5 : Fr n0 L5 := by rw [l5]; exact Fr.app N3 N5q
      refine own_go (fun tg k => st5 tg k) ?_
      show own_Fin _ _ _ _ _ _ _ (T5.setTop (mkF m 27 #[.val (.ref r0), .val (.int (xg 2)), .val (.int (2 : Int32))] [(.int (own_f4 (3 : Int32) (1 : Int32))), (.int (own_iushr (xg 2) (2 : Int32)))]))
      by_cases hc6 : (own_iushr (xg 2) (2 : Int32)) < (own_f4 (3 : Int32) (1 : Int32))
      · refine own_go (fun _ k => XS.icmpYes X5.here hx rfl (pc0 := 27) (pc' := 36) rfl (hb hby d3_27) rfl (tlt hc6).1 (by decide) (by decide) k) ?_
        show own_Fin _ _ _ _ _ _ _ (T5.setTop (mkF m 36 #[.val (.ref r0), .val (.int (xg 2)), .val (.int (2 : Int32))] []))
        refine own_go (fun _ k => XS.iloadN X5.here hx rfl (hb hby d3_36) rfl k) ?_
        show own_Fin _ _ _ _ _ _ _ (T5.setTop (mkF m 37 #[.val (.ref r0), .val (.int (xg 2)), .val (.int (2 : Int32))] [(.int (2 : Int32))]))
        refine own_ret X5 hx hlk Bd.returns rfl (Or.inl ⟨rfl, by simp, _, rfl⟩) (hb hby d3_37) (Nat.le_of_ble_eq_true rfl) (Nat.le_of_ble_eq_true rfl) ?_
        refine ⟨(own_lf_own_f3_3 (xg := xg) hc2 hc4 hc6), N5, e5⟩
      · refine own_go (fun _ k => XS.icmpNo X5.here hx rfl (hb hby d3_27) rfl (flt hc6).1 k) ?_
        show own_Fin _ _ _ _ _ _ _ (T5.setTop (mkF m 30 #[.val (.ref r0), .val (.int (xg 2)), .val (.int (2 : Int32))] []))
        refine own_go (fun _ k => XS.iinc X5.here hx rfl (hb hby d3_30) rfl (l' := #[.val (.ref r0), .val (.int (xg 2)), .val (.int (3 : Int32))]) rfl k) ?_
        show own_Fin _ _ _ _ _ _ _ (T5.setTop (mkF m 33 #[.val (.ref r0), .val (.int (xg 2)), .val (.int (3 : Int32))] []))
        refine own_go (fun _ k => XS.goto X5.here hx rfl (pc0 := 33) (pc' := 18) rfl (hb hby d3_33) (by decide) (by decide) k) ?_
        show own_Fin _ _ _ _ _ _ _ (T5.setTop (mkF m 18 #[.val (.ref r0), .val (.int (xg 2)), .val (.int (3 : Int32))] []))
        refine own_go (fun _ k => XS.iloadN X5.here hx rfl (hb hby d3_18) rfl k) ?_
        show own_Fin _ _ _ _ _ _ _ (T5.setTop (mkF m 19 #[.val (.ref r0), .val (.int (xg 2)), .val (.int (3 : Int32))] [(.int (xg 2))]))
        refine own_go (fun _ k => XS.iloadN X5.here hx rfl (hb hby d3_19) rfl k) ?_
        show own_Fin _ _ _ _ _ _ _ (T5.setTop (mkF m 20 #[.val (.ref r0), .val (.int (xg 2)), .val (.int (3 : Int32))] [(.int (3 : Int32)), (.int (xg 2))]))
        refine own_go (fun _ k => XS.iushr X5.here hx rfl (hb hby d3_20) rfl k) ?_
        show own_Fin _ _ _ _ _ _ _ (T5.setTop (mkF m 21 #[.val (.ref r0), .val (.int (xg 2)), .val (.int (3 : Int32))] [(.int (own_iushr (xg 2) (3 : Int32)))]))
        refine own_go (fun _ k => XS.aloadN X5.here hx rfl (hb hby d3_21) rfl rfl k) ?_
        show own_Fin _ _ _ _ _ _ _ (T5.setTop (mkF m 22 #[.val (.ref r0), .val (.int (xg 2)), .val (.int (3 : Int32))] [(.ref r0), (.int (own_iushr (xg 2) (3 : Int32)))]))
        refine own_go (fun tg k => own_alen X5 hx hZ e5 A_r0_0 (g := (mkF m 22 #[.val (.ref r0), .val (.int (xg 2)), .val (.int (3 : Int32))] [(.ref r0), (.int (own_iushr (xg 2) (3 : Int32)))])) rfl rfl (hb hby d3_22) tg k) ?_
        show own_Fin _ _ _ _ _ _ _ (T5.setTop (mkF m 23 #[.val (.ref r0), .val (.int (xg 2)), .val (.int (3 : Int32))] [(.int (3 : Int32)), (.int (own_iushr (xg 2) (3 : Int32)))]))
        refine own_go (fun _ k => XS.iconst X5.here hx rfl (hb hby d3_23) k) ?_
        show own_Fin _ _ _ _ _ _ _ (T5.setTop (mkF m 24 #[.val (.ref r0), .val (.int (xg 2)), .val (.int (3 : Int32))] [(.int (1 : Int32)), (.int (3 : Int32)), (.int (own_iushr (xg 2) (3 : Int32)))]))
        obtain ⟨_, _, ⟨T7, L7, k7, n7⟩, -, X7, ⟨Lc7, hQ7, l7, y7, z7⟩, st7⟩ := Jvm.LawKit.callS X5 hx (y := (⟨"java/lang/Math", "max", "(II)I"⟩ : MethodName)) hown (mvT hZ (hw _ (List.mem_of_getElem? (i := 27) rfl))) (mvT hZ (hw _ (List.mem_of_getElem? (i := 28) rfl))) (mvT hZ (hw _ (List.mem_of_getElem? (i := 29) rfl))) (mvT hZ (hw _ (List.mem_of_getElem? (i := 30) rfl))) (by decide) (backOf (W := 1) (rm4 l Z a0 hw [] (3 : Int32) (1 : Int32) h0 n0 Z0) hZ (hw _ (List.mem_of_getElem? (i := 30) rfl)) (hw _ (List.mem_of_getElem? (i := 29) rfl)) (by decide) (by decide)) (g := (mkF m 24 #[.val (.ref r0), .val (.int (xg 2)), .val (.int (3 : Int32))] [(.int (1 : Int32)), (.int (3 : Int32)), (.int (own_iushr (xg 2) (3 : Int32)))])) rfl (by rw [hml]; rfl) (argsL := [(.int (3 : Int32)), (.int (1 : Int32))]) (rest := [(.int (own_iushr (xg 2) (3 : Int32)))]) (lenOf own_pd9 rfl) rfl (by show 2 * 0 + _ ≤ _; exact Nat.le_of_eq rfl) (hb hby d3_24) (fun _ _ => ⟨rfl, e5, (by decide : 0 + 0 ≤ _), (by decide : 0 + 0 ≤ _)⟩)
        dsimp only [Pt.U, Pt.locs, Pt.cells, Pt.slots] at X7 l7 y7 z7 st7 hQ7
        replace y7 : 0 = k7 := y7.symm
        replace z7 : 0 = n7 := z7.symm
        subst y7 z7
        obtain ⟨rfl, N7q, e7⟩ := hQ7
        have N7 : Fr n0 L7 := by rw [l7]; exact Fr.app N5 N7q
        refine own_go (fun tg k => st7 tg k) ?_
        show own_Fin _ _ _ _ _ _ _ (T7.setTop (mkF m 27 #[.val (.ref r0), .val (.int (xg 2)), .val (.int (3 : Int32))] [(.int (own_f4 (3 : Int32) (1 : Int32))), (.int (own_iushr (xg 2) (3 : Int32)))]))
        by_cases hc8 : (own_iushr (xg 2) (3 : Int32)) < (own_f4 (3 : Int32) (1 : Int32))
        · refine own_go (fun _ k => XS.icmpYes X7.here hx rfl (pc0 := 27) (pc' := 36) rfl (hb hby d3_27) rfl (tlt hc8).1 (by decide) (by decide) k) ?_
          show own_Fin _ _ _ _ _ _ _ (T7.setTop (mkF m 36 #[.val (.ref r0), .val (.int (xg 2)), .val (.int (3 : Int32))] []))
          refine own_go (fun _ k => XS.iloadN X7.here hx rfl (hb hby d3_36) rfl k) ?_
          show own_Fin _ _ _ _ _ _ _ (T7.setTop (mkF m 37 #[.val (.ref r0), .val (.int (xg 2)), .val (.int (3 : Int32))] [(.int (3 : Int32))]))
          refine own_ret X7 hx hlk Bd.returns rfl (Or.inl ⟨rfl, by simp, _, rfl⟩) (hb hby d3_37) (Nat.le_of_ble_eq_true rfl) (Nat.le_of_ble_eq_true rfl) ?_
          refine ⟨(own_lf_own_f3_4 (xg := xg) hc2 hc4 hc6 hc8), N7, e7⟩
        · refine own_go (fun _ k => XS.icmpNo X7.here hx rfl (hb hby d3_27) rfl (flt hc8).1 k) ?_
          show own_Fin _ _ _ _ _ _ _ (T7.setTop (mkF m 30 #[.val (.ref r0), .val (.int (xg 2)), .val (.int (3 : Int32))] []))
          refine own_go (fun _ k => XS.iinc X7.here hx rfl (hb hby d3_30) rfl (l' := #[.val (.ref r0), .val (.int (xg 2)), .val (.int (4 : Int32))]) rfl k) ?_
          show own_Fin _ _ _ _ _ _ _ (T7.setTop (mkF m 33 #[.val (.ref r0), .val (.int (xg 2)), .val (.int (4 : Int32))] []))
          refine own_go (fun _ k => XS.goto X7.here hx rfl (pc0 := 33) (pc' := 18) rfl (hb hby d3_33) (by decide) (by decide) k) ?_
          show own_Fin _ _ _ _ _ _ _ (T7.setTop (mkF m 18 #[.val (.ref r0), .val (.int (xg 2)), .val (.int (4 : Int32))] []))
          refine own_go (fun _ k => XS.iloadN X7.here hx rfl (hb hby d3_18) rfl k) ?_
          show own_Fin _ _ _ _ _ _ _ (T7.setTop (mkF m 19 #[.val (.ref r0), .val (.int (xg 2)), .val (.int (4 : Int32))] [(.int (xg 2))]))
          refine own_go (fun _ k => XS.iloadN X7.here hx rfl (hb hby d3_19) rfl k) ?_
          show own_Fin _ _ _ _ _ _ _ (T7.setTop (mkF m 20 #[.val (.ref r0), .val (.int (xg 2)), .val (.int (4 : Int32))] [(.int (4 : Int32)), (.int (xg 2))]))
          refine own_go (fun _ k => XS.iushr X7.here hx rfl (hb hby d3_20) rfl k) ?_
          show own_Fin _ _ _ _ _ _ _ (T7.setTop (mkF m 21 #[.val (.ref r0), .val (.int (xg 2)), .val (.int (4 : Int32))] [(.int (own_iushr (xg 2) (4 : Int32)))]))
          refine own_go (fun _ k => XS.aloadN X7.here hx rfl (hb hby d3_21) rfl rfl k) ?_
          show own_Fin _ _ _ _ _ _ _ (T7.setTop (mkF m 22 #[.val (.ref r0), .val (.int (xg 2)), .val (.int (4 : Int32))] [(.ref r0), (.int (own_iushr (xg 2) (4 : Int32)))]))
          refine own_go (fun tg k => own_alen X7 hx hZ e7 A_r0_0 (g := (mkF m 22 #[.val (.ref r0), .val (.int (xg 2)), .val (.int (4 : Int32))] [(.ref r0), (.int (own_iushr (xg 2) (4 : Int32)))])) rfl rfl (hb hby d3_22) tg k) ?_
          show own_Fin _ _ _ _ _ _ _ (T7.setTop (mkF m 23 #[.val (.ref r0), .val (.int (xg 2)), .val (.int (4 : Int32))] [(.int (3 : Int32)), (.int (own_iushr (xg 2) (4 : Int32)))]))
          refine own_go (fun _ k => XS.iconst X7.here hx rfl (hb hby d3_23) k) ?_
          show own_Fin _ _ _ _ _ _ _ (T7.setTop (mkF m 24 #[.val (.ref r0), .val (.int (xg 2)), .val (.int (4 : Int32))] [(.int (1 : Int32)), (.int (3 : Int32)), (.int (own_iushr (xg 2) (4 : Int32)))]))
          obtain ⟨_, _, ⟨T9, L9, k9, n9⟩, -, X9, ⟨Lc9, hQ9, l9, y9, z9⟩, st9⟩ := Jvm.LawKit.callS X7 hx (y := (⟨"java/lang/Math", "max", "(II)I"⟩ : MethodName)) hown (mvT hZ (hw _ (List.mem_of_getElem? (i := 27) rfl))) (mvT hZ (hw _ (List.mem_of_getElem? (i := 28) rfl))) (mvT hZ (hw _ (List.mem_of_getElem? (i := 29) rfl))) (mvT hZ (hw _ (List.mem_of_getElem? (i := 30) rfl))) (by decide) (backOf (W := 1) (rm4 l Z a0 hw [] (3 : Int32) (1 : Int32) h0 n0 Z0) hZ (hw _ (List.mem_of_getElem? (i := 30) rfl)) (hw _ (List.mem_of_getElem? (i := 29) rfl)) (by decide) (by decide)) (g := (mkF m 24 #[.val (.ref r0), .val (.int (xg 2)), .val (.int (4 : Int32))] [(.int (1 : Int32)), (.int (3 : Int32)), (.int (own_iushr (xg 2) (4 : Int32)))])) rfl (by rw [hml]; rfl) (argsL := [(.int (3 : Int32)), (.int (1 : Int32))]) (rest := [(.int (own_iushr (xg 2) (4 : Int32)))]) (lenOf own_pd9 rfl) rfl (by show 2 * 0 + _ ≤ _; exact Nat.le_of_eq rfl) (hb hby d3_24) (fun _ _ => ⟨rfl, e7, (by decide : 0 + 0 ≤ _), (by decide : 0 + 0 ≤ _)⟩)
          dsimp only [Pt.U, Pt.locs, Pt.cells, Pt.slots] at X9 l9 y9 z9 st9 hQ9
          replace y9 : 0 = k9 := y9.symm
          replace z9 : 0 = n9 := z9.symm
          subst y9 z9
          obtain ⟨rfl, N9q, e9⟩ := hQ9
          have N9 : Fr n0 L9 := by rw [l9]; exact Fr.app N7 N9q
          refine own_go (fun tg k => st9 tg k) ?_
          show own_Fin _ _ _ _ _ _ _ (T9.setTop (mkF m 27 #[.val (.ref r0), .val (.int (xg 2)), .val (.int (4 : Int32))] [(.int (own_f4 (3 : Int32) (1 : Int32))), (.int (own_iushr (xg 2) (4 : Int32)))]))
          have hc27 : (own_iushr (xg 2) (4 : Int32)) < (own_f4 (3 : Int32) (1 : Int32)) := own_bs4 hp
          refine own_go (fun _ k => XS.icmpYes X9.here hx rfl (pc0 := 27) (pc' := 36) rfl (hb hby d3_27) rfl (tlt hc27).1 (by decide) (by decide) k) ?_
          show own_Fin _ _ _ _ _ _ _ (T9.setTop (mkF m 36 #[.val (.ref r0), .val (.int (xg 2)), .val (.int (4 : Int32))] []))
          refine own_go (fun _ k => XS.iloadN X9.here hx rfl (hb hby d3_36) rfl k) ?_
          show own_Fin _ _ _ _ _ _ _ (T9.setTop (mkF m 37 #[.val (.ref r0), .val (.int (xg 2)), .val (.int (4 : Int32))] [(.int (4 : Int32))]))
          refine own_ret X9 hx hlk Bd.returns rfl (Or.inl ⟨rfl, by simp, _, rfl⟩) (hb hby d3_37) (Nat.le_of_ble_eq_true rfl) (Nat.le_of_ble_eq_true rfl) ?_
          refine ⟨(own_lf_own_f3_5 (xg := xg) hc2 hc4 hc6 hc8), N9, e9⟩
theorem d5_0 : decode prog_2_method_3_code 0 = .ok (.aload_n 0, 1) := by decide +kernel
theorem d5_1 : decode prog_2_method_3_code 1 = .ok (.arraylength, 1) := by decide +kernel
theorem d5_2 : decode prog_2_method_3_code 2 = .ok (.ifCond .ne 7, 3) := by decide +kernel
theorem d5_9 : decode prog_2_method_3_code 9 = .ok (.aload_n 0, 1) := by decide +kernel
theorem d5_10 : decode prog_2_method_3_code 10 = .ok (.aload_n 0, 1) := by decide +kernel
theorem d5_11 : decode prog_2_method_3_code 11 = .ok (.arraylength, 1) := by decide +kernel
theorem d5_12 : decode prog_2_method_3_code 12 = .ok (.iconst 1, 1) := by decide +kernel
theorem d5_13 : decode prog_2_method_3_code 13 = .ok (.isub, 1) := by decide +kernel
theorem d5_14 : decode prog_2_method_3_code 14 = .ok (.iaload, 1) := by decide +kernel
theorem d5_15 : decode prog_2_method_3_code 15 = .ok (.istore_n 2, 1) := by decide +kernel
theorem d5_16 : decode prog_2_method_3_code 16 = .ok (.iload_n 2, 1) := by decide +kernel
theorem d5_17 : decode prog_2_method_3_code 17 = .ok (.iload_n 1, 1) := by decide +kernel
theorem d5_18 : decode prog_2_method_3_code 18 = .ok (.iushr, 1) := by decide +kernel
theorem d5_19 : decode prog_2_method_3_code 19 = .ok (.iconst 2, 1) := by decide +kernel
theorem d5_20 : decode prog_2_method_3_code 20 = .ok (.iadd, 1) := by decide +kernel
theorem d5_21 : decode prog_2_method_3_code 21 = .ok (.newarray .int, 2) := by decide +kernel
theorem d5_23 : decode prog_2_method_3_code 23 = .ok (.astore_n 3, 1) := by decide +kernel
theorem d5_24 : decode prog_2_method_3_code 24 = .ok (.aload_n 0, 1) := by decide +kernel
theorem d5_25 : decode prog_2_method_3_code 25 = .ok (.astore 4, 2) := by decide +kernel
theorem d5_27 : decode prog_2_method_3_code 27 = .ok (.aload 4, 2) := by decide +kernel
theorem d5_29 : decode prog_2_method_3_code 29 = .ok (.arraylength, 1) := by decide +kernel
theorem d5_30 : decode prog_2_method_3_code 30 = .ok (.istore 5, 2) := by decide +kernel
theorem d5_32 : decode prog_2_method_3_code 32 = .ok (.iconst 0, 1) := by decide +kernel
theorem d5_33 : decode prog_2_method_3_code 33 = .ok (.istore 6, 2) := by decide +kernel
theorem d5_35 : decode prog_2_method_3_code 35 = .ok (.iload 6, 2) := by decide +kernel
theorem d5_37 : decode prog_2_method_3_code 37 = .ok (.iload 5, 2) := by decide +kernel
theorem d5_39 : decode prog_2_method_3_code 39 = .ok (.if_icmp .ge 28, 3) := by decide +kernel
theorem d5_42 : decode prog_2_method_3_code 42 = .ok (.aload 4, 2) := by decide +kernel
theorem d5_44 : decode prog_2_method_3_code 44 = .ok (.iload 6, 2) := by decide +kernel
theorem d5_46 : decode prog_2_method_3_code 46 = .ok (.iaload, 1) := by decide +kernel
theorem d5_47 : decode prog_2_method_3_code 47 = .ok (.istore 7, 2) := by decide +kernel
theorem d5_49 : decode prog_2_method_3_code 49 = .ok (.aload_n 3, 1) := by decide +kernel
theorem d5_50 : decode prog_2_method_3_code 50 = .ok (.iload 7, 2) := by decide +kernel
theorem d5_52 : decode prog_2_method_3_code 52 = .ok (.iload_n 1, 1) := by decide +kernel
theorem d5_53 : decode prog_2_method_3_code 53 = .ok (.iushr, 1) := by decide +kernel
theorem d5_54 : decode prog_2_method_3_code 54 = .ok (.iconst 1, 1) := by decide +kernel
theorem d5_55 : decode prog_2_method_3_code 55 = .ok (.iadd, 1) := by decide +kernel
theorem d5_56 : decode prog_2_method_3_code 56 = .ok (.dup2, 1) := by decide +kernel
theorem d5_57 : decode prog_2_method_3_code 57 = .ok (.iaload, 1) := by decide +kernel
theorem d5_58 : decode prog_2_method_3_code 58 = .ok (.iconst 1, 1) := by decide +kernel
theorem d5_59 : decode prog_2_method_3_code 59 = .ok (.iadd, 1) := by decide +kernel
theorem d5_60 : decode prog_2_method_3_code 60 = .ok (.iastore, 1) := by decide +kernel
theorem d5_61 : decode prog_2_method_3_code 61 = .ok (.iinc 6 1, 3) := by decide +kernel
theorem d5_64 : decode prog_2_method_3_code 64 = .ok (.goto (-29), 3) := by decide +kernel
theorem d5_67 : decode prog_2_method_3_code 67 = .ok (.iconst 1, 1) := by decide +kernel
theorem d5_68 : decode prog_2_method_3_code 68 = .ok (.istore 4, 2) := by decide +kernel
theorem d5_70 : decode prog_2_method_3_code 70 = .ok (.iload 4, 2) := by decide +kernel
theorem d5_72 : decode prog_2_method_3_code 72 = .ok (.aload_n 3, 1) := by decide +kernel
theorem d5_73 : decode prog_2_method_3_code 73 = .ok (.arraylength, 1) := by decide +kernel
theorem d5_74 : decode prog_2_method_3_code 74 = .ok (.if_icmp .ge 22, 3) := by decide +kernel
theorem d5_77 : decode prog_2_method_3_code 77 = .ok (.aload_n 3, 1) := by decide +kernel
theorem d5_78 : decode prog_2_method_3_code 78 = .ok (.iload 4, 2) := by decide +kernel
theorem d5_80 : decode prog_2_method_3_code 80 = .ok (.dup2, 1) := by decide +kernel
theorem d5_81 : decode prog_2_method_3_code 81 = .ok (.iaload, 1) := by decide +kernel
theorem d5_82 : decode prog_2_method_3_code 82 = .ok (.aload_n 3, 1) := by decide +kernel
theorem d5_83 : decode prog_2_method_3_code 83 = .ok (.iload 4, 2) := by decide +kernel
theorem d5_85 : decode prog_2_method_3_code 85 = .ok (.iconst 1, 1) := by decide +kernel
theorem d5_86 : decode prog_2_method_3_code 86 = .ok (.isub, 1) := by decide +kernel
theorem d5_87 : decode prog_2_method_3_code 87 = .ok (.iaload, 1) := by decide +kernel
theorem d5_88 : decode prog_2_method_3_code 88 = .ok (.iadd, 1) := by decide +kernel
theorem d5_89 : decode prog_2_method_3_code 89 = .ok (.iastore, 1) := by decide +kernel
theorem d5_90 : decode prog_2_method_3_code 90 = .ok (.iinc 4 1, 3) := by decide +kernel
theorem d5_93 : decode prog_2_method_3_code 93 = .ok (.goto (-23), 3) := by decide +kernel
theorem d5_96 : decode prog_2_method_3_code 96 = .ok (.aload_n 3, 1) := by decide +kernel
theorem d5_97 : decode prog_2_method_3_code 97 = .ok (.areturn, 1) := by decide +kernel
theorem pn_5 : plainName "com/example/reachability/reachability/CandidateList" = true := by first | (simp [plainName, overriddenIn]; done) | decide +kernel
theorem ef_5 (m : MethodId) (r0 : Addr) (p1 : Int32) : entryFrame m #[(.ref r0), (.int p1)] 8 = mkF m 0 #[.val (.ref r0), .val (.int p1), .unset, .unset, .unset, .unset, .unset, .unset] [] := by first | (simp [entryFrame, mkF, argsToLocals, Value.category]; done) | rfl
def rm5_room : Room := { frames := 0, cells := 1, slots := 4, locals := 0 }
def Qrm5 (Z : State) (r0 : Addr) (p1 : Int32) (xg : Nat → Int32) (h0 : Heap) (n0 : Nat) (v : Option Value) (h : Heap) (L : List Loc) : Prop := ∃ rb : Addr, ∃ gB : Nat → Int32, v = some (.ref rb) ∧ Fr n0 L ∧ Keep h0 h [] ∧ h0.size ≤ rb ∧ own_Arf Z h rb .int ((own_iushr (xg 2) p1) + (2 : Int32)) (fun i => .int (gB i)) ∧ own_spB xg p1 gB
set_option maxRecDepth 65536 in
set_option maxHeartbeats 40000000 in
theorem rm5 (l : Launch) (Z : State) (a0 : Array Value) (hw : ∀ d ∈ tables_1, d.before a0 Z = true) (ws : List Jvm.Cond) (r0 : Addr) (p1 : Int32) (xg : Nat → Int32) (h0 : Heap) (n0 : Nat) (Z0 : n0 ≤ h0.size) (A_r0_0 : own_Arf Z h0 r0 .int (3 : Int32) (fun i => .int (xg i))) (hp : own_okB xg p1) :
    MetFree l (⟨"com/example/reachability/reachability/CandidateList", "bucketStarts", "([II)[I"⟩ : MethodName) (head1 (Jvm.Cond.code (⟨"com/example/reachability/reachability/CandidateList", "bucketStarts", "([II)[I"⟩ : MethodName) prog_2_method_3_code 8 (some (.array .int)) :: ws) rm5_room) (fun a U => a = #[(.ref r0), (.int p1)] ∧ Z.Warmed39 U.vm ∧ U.heap = h0) (fun _ _ _ _ _ => True) (fun _ U o U' => ∃ v L, o = .returned v ∧ Qrm5 Z r0 p1 xg h0 n0 v U'.heap L ∧ FrameEnd U o U' L rm5_room.cells rm5_room.slots) := by
  refine MetFree.of_bodySF (plainFor_of_name pn_5) hisR ?_
  intro p e s m args below meth c s₁ Bd hml0 hP hK
  obtain ⟨rfl, hZ, hh⟩ := hP
  have hx := Bd.exec
  have hby := Bd.bytes
  have hml : c.maxLocals = 8 := hml0
  have hown : s.vm.findClass "com/example/reachability/reachability/CandidateList" = some m.cls := findClass_of_methodNamed Bd.named
  have hnm := (name_of_methodNamed Bd.named Bd.method).1
  have hlk : meth.locks = false := BodyLoose.notSynchronized Bd
  have X0 : Stand p l e rm5_room s m #[(.ref r0), (.int p1)] below meth c s₁ [] 0 0 := Stand.of_body Bd
  have e0 : s₁.heap = h0 := by rw [← hh, Bd.state]; rfl
  have N0 := Fr.nil n0
  show own_Fin p.tables e below s (Qrm5 Z r0 p1 xg h0 n0) rm5_room.cells rm5_room.slots (s₁.setTop (entryFrame m #[(.ref r0), (.int p1)] 8))
  rw [ef_5]
  show own_Fin _ _ _ _ _ _ _ (s₁.setTop (mkF m 0 #[.val (.ref r0), .val (.int p1), .unset, .unset, .unset, .unset, .unset, .unset] []))
  have K0 := Keep.refl h0 []
  refine own_go (fun _ k => XS.aloadN X0.here hx rfl (hb hby d5_0) rfl rfl k) ?_
  refine own_go (fun tg k => own_alen X0 hx hZ e0 A_r0_0 (g := (mkF m 1 #[.val (.ref r0), .val (.int p1), .unset, .unset, .unset, .unset, .unset, .unset] [(.ref r0)])) rfl rfl (hb hby d5_1) tg k) ?_
  show own_Fin _ _ _ _ _ _ _ (s₁.setTop (mkF m 2 #[.val (.ref r0), .val (.int p1), .unset, .unset, .unset, .unset, .unset, .unset] [(.int (3 : Int32))]))
  refine own_go (fun _ k => XS.ifYes X0.here hx rfl (pc0 := 2) (pc' := 9) rfl (hb hby d5_2) rfl ((if0 _ _).trans (feq (by decide)).2) (by decide) (by decide) k) ?_
  show own_Fin _ _ _ _ _ _ _ (s₁.setTop (mkF m 9 #[.val (.ref r0), .val (.int p1), .unset, .unset, .unset, .unset, .unset, .unset] []))
  refine own_go (fun _ k => XS.aloadN X0.here hx rfl (hb hby d5_9) rfl rfl k) ?_
  refine own_go (fun _ k => XS.aloadN X0.here hx rfl (hb hby d5_10) rfl rfl k) ?_
  refine own_go (fun tg k => own_alen X0 hx hZ e0 A_r0_0 (g := (mkF m 11 #[.val (.ref r0), .val (.int p1), .unset, .unset, .unset, .unset, .unset, .unset] [(.ref r0), (.ref r0)])) rfl rfl (hb hby d5_11) tg k) ?_
  show own_Fin _ _ _ _ _ _ _ (s₁.setTop (mkF m 12 #[.val (.ref r0), .val (.int p1), .unset, .unset, .unset, .unset, .unset, .unset] [(.int (3 : Int32)), (.ref r0)]))
  refine own_go (fun _ k => XS.iconst X0.here hx rfl (hb hby d5_12) k) ?_
  refine own_go (fun _ k => XS.isub X0.here hx rfl (hb hby d5_13) rfl k) ?_
  show own_Fin _ _ _ _ _ _ _ (s₁.setTop (mkF m 14 #[.val (.ref r0), .val (.int p1), .unset, .unset, .unset, .unset, .unset, .unset] [(.int (2 : Int32)), (.ref r0)]))
  refine own_go (fun tg k => own_iaload X0 hx hZ e0 A_r0_0 (j := (2 : Int32)) ⟨by decide, by decide⟩ (x := (xg 2)) rfl (g := (mkF m 14 #[.val (.ref r0), .val (.int p1), .unset, .unset, .unset, .unset, .unset, .unset] [(.int (2 : Int32)), (.ref r0)])) rfl rfl (hb hby d5_14) tg k) ?_
  show own_Fin _ _ _ _ _ _ _ (s₁.setTop (mkF m 15 #[.val (.ref r0), .val (.int p1), .unset, .unset, .unset, .unset, .unset, .unset] [(.int (xg 2))]))
  refine own_go (fun _ k => XS.istoreN X0.here hx rfl (hb hby d5_15) rfl (l' := #[.val (.ref r0), .val (.int p1), .val (.int (xg 2)), .unset, .unset, .unset, .unset, .unset]) rfl k) ?_
  show own_Fin _ _ _ _ _ _ _ (s₁.setTop (mkF m 16 #[.val (.ref r0), .val (.int p1), .val (.int (xg 2)), .unset, .unset, .unset, .unset, .unset] []))
  refine own_go (fun _ k => XS.iloadN X0.here hx rfl (hb hby d5_16) rfl k) ?_
  refine own_go (fun _ k => XS.iloadN X0.here hx rfl (hb hby d5_17) rfl k) ?_
  refine own_go (fun _ k => XS.iushr X0.here hx rfl (hb hby d5_18) rfl k) ?_
  show own_Fin _ _ _ _ _ _ _ (s₁.setTop (mkF m 19 #[.val (.ref r0), .val (.int p1), .val (.int (xg 2)), .unset, .unset, .unset, .unset, .unset] [(.int (own_iushr (xg 2) p1))]))
  refine own_go (fun _ k => XS.iconst X0.here hx rfl (hb hby d5_19) k) ?_
  refine own_go (fun _ k => XS.iadd X0.here hx rfl (hb hby d5_20) rfl k) ?_
  show own_Fin _ _ _ _ _ _ _ (s₁.setTop (mkF m 21 #[.val (.ref r0), .val (.int p1), .val (.int (xg 2)), .unset, .unset, .unset, .unset, .unset] [(.int ((own_iushr (xg 2) p1) + (2 : Int32)))]))
  obtain ⟨T1, h1, k1, X1, e1, E1, A1, st1⟩ := newP X0 hx hZ (hw _ (List.mem_of_getElem? (i := 3) rfl)) e0 (g := (mkF m 21 #[.val (.ref r0), .val (.int p1), .val (.int (xg 2)), .unset, .unset, .unset, .unset, .unset] [(.int ((own_iushr (xg 2) p1) + (2 : Int32)))])) rfl (hb hby d5_21) rfl (own_bneg hp) (cap := 4) (own_bcap hp) (by decide) (by decide) (by decide)
  obtain ⟨b1, g1⟩ : ∃ z, z = h0.size := ⟨_, rfl⟩
  rw [← g1] at A1 st1
  have ne_r0_b1 : r0 ≠ b1 := Nat.ne_of_lt (Nat.lt_of_lt_of_le A_r0_0.lt (Nat.le_of_eq g1.symm))
  have ge_b1 : n0 ≤ b1 := Nat.le_trans Z0 (Nat.le_of_eq g1.symm)
  have sz_b1 : h0.size ≤ b1 := Nat.le_trans K0.1 (Nat.le_of_eq g1.symm)
  have A_r0_1 := A_r0_0.ext E1
  have K1 := K0.ext E1
  have Z1 : n0 ≤ h1.size := Nat.le_trans Z0 E1.1
  have A_b1_1 : own_Arf Z h1 b1 .int ((own_iushr (xg 2) p1) + (2 : Int32)) (fun i => .int ((fun _ => (0 : Int32)) i)) := own_Arf.new A1 (own_bneg hp)
  refine own_go (fun tg k => st1 tg k) ?_
  show own_Fin _ _ _ _ _ _ _ (T1.setTop (mkF m 23 #[.val (.ref r0), .val (.int p1), .val (.int (xg 2)), .unset, .unset, .unset, .unset, .unset] [(.ref b1)]))
  refine own_go (fun _ k => XS.astoreN X1.here hx rfl (hb hby d5_23) rfl rfl (l' := #[.val (.ref r0), .val (.int p1), .val (.int (xg 2)), .val (.ref b1), .unset, .unset, .unset, .unset]) rfl k) ?_
  show own_Fin _ _ _ _ _ _ _ (T1.setTop (mkF m 24 #[.val (.ref r0), .val (.int p1), .val (.int (xg 2)), .val (.ref b1), .unset, .unset, .unset, .unset] []))
  refine own_go (fun _ k => XS.aloadN X1.here hx rfl (hb hby d5_24) rfl rfl k) ?_
  refine own_go (fun _ k => XS.astore X1.here hx rfl (hb hby d5_25) rfl rfl (l' := #[.val (.ref r0), .val (.int p1), .val (.int (xg 2)), .val (.ref b1), .val (.ref r0), .unset, .unset, .unset]) rfl k) ?_
  show own_Fin _ _ _ _ _ _ _ (T1.setTop (mkF m 27 #[.val (.ref r0), .val (.int p1), .val (.int (xg 2)), .val (.ref b1), .val (.ref r0), .unset, .unset, .unset] []))
  refine own_go (fun _ k => XS.aload X1.here hx rfl (hb hby d5_27) rfl rfl k) ?_
  refine own_go (fun tg k => own_alen X1 hx hZ e1 A_r0_1 (g := (mkF m 29 #[.val (.ref r0), .val (.int p1), .val (.int (xg 2)), .val (.ref b1), .val (.ref r0), .unset, .unset, .unset] [(.ref r0)])) rfl rfl (hb hby d5_29) tg k) ?_
  show own_Fin _ _ _ _ _ _ _ (T1.setTop (mkF m 30 #[.val (.ref r0), .val (.int p1), .val (.int (xg 2)), .val (.ref b1), .val (.ref r0), .unset, .unset, .unset] [(.int (3 : Int32))]))
  refine own_go (fun _ k => XS.istore X1.here hx rfl (hb hby d5_30) rfl (l' := #[.val (.ref r0), .val (.int p1), .val (.int (xg 2)), .val (.ref b1), .val (.ref r0), .val (.int (3 : Int32)), .unset, .unset]) rfl k) ?_
  show own_Fin _ _ _ _ _ _ _ (T1.setTop (mkF m 32 #[.val (.ref r0), .val (.int p1), .val (.int (xg 2)), .val (.ref b1), .val (.ref r0), .val (.int (3 : Int32)), .unset, .unset] []))
  refine own_go (fun _ k => XS.iconst X1.here hx rfl (hb hby d5_32) k) ?_
  refine own_go (fun _ k => XS.istore X1.here hx rfl (hb hby d5_33) rfl (l' := #[.val (.ref r0), .val (.int p1), .val (.int (xg 2)), .val (.ref b1), .val (.ref r0), .val (.int (3 : Int32)), .val (.int (0 : Int32)), .unset]) rfl k) ?_
  show own_Fin _ _ _ _ _ _ _ (T1.setTop (mkF m 35 #[.val (.ref r0), .val (.int p1), .val (.int (xg 2)), .val (.ref b1), .val (.ref r0), .val (.int (3 : Int32)), .val (.int (0 : Int32)), .unset] []))
  refine own_go (fun _ k => XS.iload X1.here hx rfl (hb hby d5_35) rfl k) ?_
  refine own_go (fun _ k => XS.iload X1.here hx rfl (hb hby d5_37) rfl k) ?_
  show own_Fin _ _ _ _ _ _ _ (T1.setTop (mkF m 39 #[.val (.ref r0), .val (.int p1), .val (.int (xg 2)), .val (.ref b1), .val (.ref r0), .val (.int (3 : Int32)), .val (.int (0 : Int32)), .unset] [(.int (3 : Int32)), (.int (0 : Int32))]))
  refine own_go (fun _ k => XS.icmpNo X1.here hx rfl (hb hby d5_39) rfl (tlt (by decide)).2.1 k) ?_
  show own_Fin _ _ _ _ _ _ _ (T1.setTop (mkF m 42 #[.val (.ref r0), .val (.int p1), .val (.int (xg 2)), .val (.ref b1), .val (.ref r0), .val (.int (3 : Int32)), .val (.int (0 : Int32)), .unset] []))
  refine own_go (fun _ k => XS.aload X1.here hx rfl (hb hby d5_42) rfl rfl k) ?_
  refine own_go (fun _ k => XS.iload X1.here hx rfl (hb hby d5_44) rfl k) ?_
  refine own_go (fun tg k => own_iaload X1 hx hZ e1 A_r0_1 (j := (0 : Int32)) ⟨by decide, by decide⟩ (x := (xg 0)) rfl (g := (mkF m 46 #[.val (.ref r0), .val (.int p1), .val (.int (xg 2)), .val (.ref b1), .val (.ref r0), .val (.int (3 : Int32)), .val (.int (0 : Int32)), .unset] [(.int (0 : Int32)), (.ref r0)])) rfl rfl (hb hby d5_46) tg k) ?_
  show own_Fin _ _ _ _ _ _ _ (T1.setTop (mkF m 47 #[.val (.ref r0), .val (.int p1), .val (.int (xg 2)), .val (.ref b1), .val (.ref r0), .val (.int (3 : Int32)), .val (.int (0 : Int32)), .unset] [(.int (xg 0))]))
  refine own_go (fun _ k => XS.istore X1.here hx rfl (hb hby d5_47) rfl (l' := #[.val (.ref r0), .val (.int p1), .val (.int (xg 2)), .val (.ref b1), .val (.ref r0), .val (.int (3 : Int32)), .val (.int (0 : Int32)), .val (.int (xg 0))]) rfl k) ?_
  show own_Fin _ _ _ _ _ _ _ (T1.setTop (mkF m 49 #[.val (.ref r0), .val (.int p1), .val (.int (xg 2)), .val (.ref b1), .val (.ref r0), .val (.int (3 : Int32)), .val (.int (0 : Int32)), .val (.int (xg 0))] []))
  refine own_go (fun _ k => XS.aloadN X1.here hx rfl (hb hby d5_49) rfl rfl k) ?_
  refine own_go (fun _ k => XS.iload X1.here hx rfl (hb hby d5_50) rfl k) ?_
  refine own_go (fun _ k => XS.iloadN X1.here hx rfl (hb hby d5_52) rfl k) ?_
  refine own_go (fun _ k => XS.iushr X1.here hx rfl (hb hby d5_53) rfl k) ?_
  show own_Fin _ _ _ _ _ _ _ (T1.setTop (mkF m 54 #[.val (.ref r0), .val (.int p1), .val (.int (xg 2)), .val (.ref b1), .val (.ref r0), .val (.int (3 : Int32)), .val (.int (0 : Int32)), .val (.int (xg 0))] [(.int (own_iushr (xg 0) p1)), (.ref b1)]))
  refine own_go (fun _ k => XS.iconst X1.here hx rfl (hb hby d5_54) k) ?_
  refine own_go (fun _ k => XS.iadd X1.here hx rfl (hb hby d5_55) rfl k) ?_
  show own_Fin _ _ _ _ _ _ _ (T1.setTop (mkF m 56 #[.val (.ref r0), .val (.int p1), .val (.int (xg 2)), .val (.ref b1), .val (.ref r0), .val (.int (3 : Int32)), .val (.int (0 : Int32)), .val (.int (xg 0))] [(.int ((own_iushr (xg 0) p1) + (1 : Int32))), (.ref b1)]))
  refine own_go (fun _ k => Jvm.Free.XT.dup2 X1.here hx rfl (hb hby d5_56) rfl rfl rfl k) ?_
  show own_Fin _ _ _ _ _ _ _ (T1.setTop (mkF m 57 #[.val (.ref r0), .val (.int p1), .val (.int (xg 2)), .val (.ref b1), .val (.ref r0), .val (.int (3 : Int32)), .val (.int (0 : Int32)), .val (.int (xg 0))] [(.int ((own_iushr (xg 0) p1) + (1 : Int32))), (.ref b1), (.int ((own_iushr (xg 0) p1) + (1 : Int32))), (.ref b1)]))
  refine own_go (fun tg k => own_iaload X1 hx hZ e1 A_b1_1 (j := ((own_iushr (xg 0) p1) + (1 : Int32))) (own_bix0 hp) (x := ((fun _ => (0 : Int32)) ((own_iushr (xg 0) p1) + (1 : Int32)).toNatClampNeg)) rfl (g := (mkF m 57 #[.val (.ref r0), .val (.int p1), .val (.int (xg 2)), .val (.ref b1), .val (.ref r0), .val (.int (3 : Int32)), .val (.int (0 : Int32)), .val (.int (xg 0))] [(.int ((own_iushr (xg 0) p1) + (1 : Int32))), (.ref b1), (.int ((own_iushr (xg 0) p1) + (1 : Int32))), (.ref b1)])) rfl rfl (hb hby d5_57) tg k) ?_
  show own_Fin _ _ _ _ _ _ _ (T1.setTop (mkF m 58 #[.val (.ref r0), .val (.int p1), .val (.int (xg 2)), .val (.ref b1), .val (.ref r0), .val (.int (3 : Int32)), .val (.int (0 : Int32)), .val (.int (xg 0))] [(.int ((fun _ => (0 : Int32)) ((own_iushr (xg 0) p1) + (1 : Int32)).toNatClampNeg)), (.int ((own_iushr (xg 0) p1) + (1 : Int32))), (.ref b1)]))
  refine own_go (fun _ k => XS.iconst X1.here hx rfl (hb hby d5_58) k) ?_
  refine own_go (fun _ k => XS.iadd X1.here hx rfl (hb hby d5_59) rfl k) ?_
  show own_Fin _ _ _ _ _ _ _ (T1.setTop (mkF m 60 #[.val (.ref r0), .val (.int p1), .val (.int (xg 2)), .val (.ref b1), .val (.ref r0), .val (.int (3 : Int32)), .val (.int (0 : Int32)), .val (.int (xg 0))] [(.int (((fun _ => (0 : Int32)) ((own_iushr (xg 0) p1) + (1 : Int32)).toNatClampNeg) + (1 : Int32))), (.int ((own_iushr (xg 0) p1) + (1 : Int32))), (.ref b1)]))
  obtain ⟨T2, h2, X2, e2, W2, A_b1_2, st2⟩ := own_stI X1 hx hZ e1 A_b1_1 (j := ((own_iushr (xg 0) p1) + (1 : Int32))) (own_bix0 hp) (g := (mkF m 60 #[.val (.ref r0), .val (.int p1), .val (.int (xg 2)), .val (.ref b1), .val (.ref r0), .val (.int (3 : Int32)), .val (.int (0 : Int32)), .val (.int (xg 0))] [(.int (((fun _ => (0 : Int32)) ((own_iushr (xg 0) p1) + (1 : Int32)).toNatClampNeg) + (1 : Int32))), (.int ((own_iushr (xg 0) p1) + (1 : Int32))), (.ref b1)])) rfl rfl (hb hby d5_60)
  have A_r0_2 := A_r0_1.other W2 ne_r0_b1
  have K2 := K1.wr W2 (Or.inr sz_b1)
  have N2 := Fr.snoc X2 N0 ge_b1
  have Z2 : n0 ≤ h2.size := Nat.le_trans Z1 (Keep.of_wr W2).1
  obtain ⟨f2, hf2⟩ : ∃ z, z = (own_set (fun _ => (0 : Int32)) ((own_iushr (xg 0) p1) + (1 : Int32)) (((fun _ => (0 : Int32)) ((own_iushr (xg 0) p1) + (1 : Int32)).toNatClampNeg) + (1 : Int32))) := ⟨_, rfl⟩
  rw [← hf2] at A_b1_2
  refine own_go (fun tg k => st2 tg k) ?_
  show own_Fin _ _ _ _ _ _ _ (T2.setTop (mkF m 61 #[.val (.ref r0), .val (.int p1), .val (.int (xg 2)), .val (.ref b1), .val (.ref r0), .val (.int (3 : Int32)), .val (.int (0 : Int32)), .val (.int (xg 0))] []))
  refine own_go (fun _ k => XS.iinc X2.here hx rfl (hb hby d5_61) rfl (l' := #[.val (.ref r0), .val (.int p1), .val (.int (xg 2)), .val (.ref b1), .val (.ref r0), .val (.int (3 : Int32)), .val (.int (1 : Int32)), .val (.int (xg 0))]) rfl k) ?_
  show own_Fin _ _ _ _ _ _ _ (T2.setTop (mkF m 64 #[.val (.ref r0), .val (.int p1), .val (.int (xg 2)), .val (.ref b1), .val (.ref r0), .val (.int (3 : Int32)), .val (.int (1 : Int32)), .val (.int (xg 0))] []))
  refine own_go (fun _ k => XS.goto X2.here hx rfl (pc0 := 64) (pc' := 35) rfl (hb hby d5_64) (by decide) (by decide) k) ?_
  show own_Fin _ _ _ _ _ _ _ (T2.setTop (mkF m 35 #[.val (.ref r0), .val (.int p1), .val (.int (xg 2)), .val (.ref b1), .val (.ref r0), .val (.int (3 : Int32)), .val (.int (1 : Int32)), .val (.int (xg 0))] []))
  refine own_go (fun _ k => XS.iload X2.here hx rfl (hb hby d5_35) rfl k) ?_
  refine own_go (fun _ k => XS.iload X2.here hx rfl (hb hby d5_37) rfl k) ?_
  show own_Fin _ _ _ _ _ _ _ (T2.setTop (mkF m 39 #[.val (.ref r0), .val (.int p1), .val (.int (xg 2)), .val (.ref b1), .val (.ref r0), .val (.int (3 : Int32)), .val (.int (1 : Int32)), .val (.int (xg 0))] [(.int (3 : Int32)), (.int (1 : Int32))]))
  refine own_go (fun _ k => XS.icmpNo X2.here hx rfl (hb hby d5_39) rfl (tlt (by decide)).2.1 k) ?_
  show own_Fin _ _ _ _ _ _ _ (T2.setTop (mkF m 42 #[.val (.ref r0), .val (.int p1), .val (.int (xg 2)), .val (.ref b1), .val (.ref r0), .val (.int (3 : Int32)), .val (.int (1 : Int32)), .val (.int (xg 0))] []))
  refine own_go (fun _ k => XS.aload X2.here hx rfl (hb hby d5_42) rfl rfl k) ?_
  refine own_go (fun _ k => XS.iload X2.here hx rfl (hb hby d5_44) rfl k) ?_
  refine own_go (fun tg k => own_iaload X2 hx hZ e2 A_r0_2 (j := (1 : Int32)) ⟨by decide, by decide⟩ (x := (xg 1)) rfl (g := (mkF m 46 #[.val (.ref r0), .val (.int p1), .val (.int (xg 2)), .val (.ref b1), .val (.ref r0), .val (.int (3 : Int32)), .val (.int (1 : Int32)), .val (.int (xg 0))] [(.int (1 : Int32)), (.ref r0)])) rfl rfl (hb hby d5_46) tg k) ?_
  show own_Fin _ _ _ _ _ _ _ (T2.setTop (mkF m 47 #[.val (.ref r0), .val (.int p1), .val (.int (xg 2)), .val (.ref b1), .val (.ref r0), .val (.int (3 : Int32)), .val (.int (1 : Int32)), .val (.int (xg 0))] [(.int (xg 1))]))
  refine own_go (fun _ k => XS.istore X2.here hx rfl (hb hby d5_47) rfl (l' := #[.val (.ref r0), .val (.int p1), .val (.int (xg 2)), .val (.ref b1), .val (.ref r0), .val (.int (3 : Int32)), .val (.int (1 : Int32)), .val (.int (xg 1))]) rfl k) ?_
  show own_Fin _ _ _ _ _ _ _ (T2.setTop (mkF m 49 #[.val (.ref r0), .val (.int p1), .val (.int (xg 2)), .val (.ref b1), .val (.ref r0), .val (.int (3 : Int32)), .val (.int (1 : Int32)), .val (.int (xg 1))] []))
  refine own_go (fun _ k => XS.aloadN X2.here hx rfl (hb hby d5_49) rfl rfl k) ?_
  refine own_go (fun _ k => XS.iload X2.here hx rfl (hb hby d5_50) rfl k) ?_
  refine own_go (fun _ k => XS.iloadN X2.here hx rfl (hb hby d5_52) rfl k) ?_
  refine own_go (fun _ k => XS.iushr X2.here hx rfl (hb hby d5_53) rfl k) ?_
  show own_Fin _ _ _ _ _ _ _ (T2.setTop (mkF m 54 #[.val (.ref r0), .val (.int p1), .val (.int (xg 2)), .val (.ref b1), .val (.ref r0), .val (.int (3 : Int32)), .val (.int (1 : Int32)), .val (.int (xg 1))] [(.int (own_iushr (xg 1) p1)), (.ref b1)]))
  refine own_go (fun _ k => XS.iconst X2.here hx rfl (hb hby d5_54) k) ?_
  refine own_go (fun _ k => XS.iadd X2.here hx rfl (hb hby d5_55) rfl k) ?_
  show own_Fin _ _ _ _ _ _ _ (T2.setTop (mkF m 56 #[.val (.ref r0), .val (.int p1), .val (.int (xg 2)), .val (.ref b1), .val (.ref r0), .val (.int (3 : Int32)), .val (.int (1 : Int32)), .val (.int (xg 1))] [(.int ((own_iushr (xg 1) p1) + (1 : Int32))), (.ref b1)]))
  refine own_go (fun _ k => Jvm.Free.XT.dup2 X2.here hx rfl (hb hby d5_56) rfl rfl rfl k) ?_
  show own_Fin _ _ _ _ _ _ _ (T2.setTop (mkF m 57 #[.val (.ref r0), .val (.int p1), .val (.int (xg 2)), .val (.ref b1), .val (.ref r0), .val (.int (3 : Int32)), .val (.int (1 : Int32)), .val (.int (xg 1))] [(.int ((own_iushr (xg 1) p1) + (1 : Int32))), (.ref b1), (.int ((own_iushr (xg 1) p1) + (1 : Int32))), (.ref b1)]))
  refine own_go (fun tg k => own_iaload X2 hx hZ e2 A_b1_2 (j := ((own_iushr (xg 1) p1) + (1 : Int32))) (own_bix1 hp) (x := (f2 ((own_iushr (xg 1) p1) + (1 : Int32)).toNatClampNeg)) rfl (g := (mkF m 57 #[.val (.ref r0), .val (.int p1), .val (.int (xg 2)), .val (.ref b1), .val (.ref r0), .val (.int (3 : Int32)), .val (.int (1 : Int32)), .val (.int (xg 1))] [(.int ((own_iushr (xg 1) p1) + (1 : Int32))), (.ref b1), (.int ((own_iushr (xg 1) p1) + (1 : Int32))), (.ref b1)])) rfl rfl (hb hby d5_57) tg k) ?_
  show own_Fin _ _ _ _ _ _ _ (T2.setTop (mkF m 58 #[.val (.ref r0), .val (.int p1), .val (.int (xg 2)), .val (.ref b1), .val (.ref r0), .val (.int (3 : Int32)), .val (.int (1 : Int32)), .val (.int (xg 1))] [(.int (f2 ((own_iushr (xg 1) p1) + (1 : Int32)).toNatClampNeg)), (.int ((own_iushr (xg 1) p1) + (1 : Int32))), (.ref b1)]))
  refine own_go (fun _ k => XS.iconst X2.here hx rfl (hb hby d5_58) k) ?_
  refine own_go (fun _ k => XS.iadd X2.here hx rfl (hb hby d5_59) rfl k) ?_
  show own_Fin _ _ _ _ _ _ _ (T2.setTop (mkF m 60 #[.val (.ref r0), .val (.int p1), .val (.int (xg 2)), .val (.ref b1), .val (.ref r0), .val (.int (3 : Int32)), .val (.int (1 : Int32)), .val (.int (xg 1))] [(.int ((f2 ((own_iushr (xg 1) p1) + (1 : Int32)).toNatClampNeg) + (1 : Int32))), (.int ((own_iushr (xg 1) p1) + (1 : Int32))), (.ref b1)]))
  obtain ⟨T3, h3, X3, e3, W3, A_b1_3, st3⟩ := own_stI X2 hx hZ e2 A_b1_2 (j := ((own_iushr (xg 1) p1) + (1 : Int32))) (own_bix1 hp) (g := (mkF m 60 #[.val (.ref r0), .val (.int p1), .val (.int (xg 2)), .val (.ref b1), .val (.ref r0), .val (.int (3 : Int32)), .val (.int (1 : Int32)), .val (.int (xg 1))] [(.int ((f2 ((own_iushr (xg 1) p1) + (1 : Int32)).toNatClampNeg) + (1 : Int32))), (.int ((own_iushr (xg 1) p1) + (1 : Int32))), (.ref b1)])) rfl rfl (hb hby d5_60)
  have A_r0_3 := A_r0_2.other W3 ne_r0_b1
  have K3 := K2.wr W3 (Or.inr sz_b1)
  have N3 := Fr.snoc X3 N2 ge_b1
  have Z3 : n0 ≤ h3.size := Nat.le_trans Z2 (Keep.of_wr W3).1
  obtain ⟨f3, hf3⟩ : ∃ z, z = (own_set f2 ((own_iushr (xg 1) p1) + (1 : Int32)) ((f2 ((own_iushr (xg 1) p1) + (1 : Int32)).toNatClampNeg) + (1 : Int32))) := ⟨_, rfl⟩
  rw [← hf3] at A_b1_3
  refine own_go (fun tg k => st3 tg k) ?_
  show own_Fin _ _ _ _ _ _ _ (T3.setTop (mkF m 61 #[.val (.ref r0), .val (.int p1), .val (.int (xg 2)), .val (.ref b1), .val (.ref r0), .val (.int (3 : Int32)), .val (.int (1 : Int32)), .val (.int (xg 1))] []))
  refine own_go (fun _ k => XS.iinc X3.here hx rfl (hb hby d5_61) rfl (l' := #[.val (.ref r0), .val (.int p1), .val (.int (xg 2)), .val (.ref b1), .val (.ref r0), .val (.int (3 : Int32)), .val (.int (2 : Int32)), .val (.int (xg 1))]) rfl k) ?_
  show own_Fin _ _ _ _ _ _ _ (T3.setTop (mkF m 64 #[.val (.ref r0), .val (.int p1), .val (.int (xg 2)), .val (.ref b1), .val (.ref r0), .val (.int (3 : Int32)), .val (.int (2 : Int32)), .val (.int (xg 1))] []))
  refine own_go (fun _ k => XS.goto X3.here hx rfl (pc0 := 64) (pc' := 35) rfl (hb hby d5_64) (by decide) (by decide) k) ?_
  show own_Fin _ _ _ _ _ _ _ (T3.setTop (mkF m 35 #[.val (.ref r0), .val (.int p1), .val (.int (xg 2)), .val (.ref b1), .val (.ref r0), .val (.int (3 : Int32)), .val (.int (2 : Int32)), .val (.int (xg 1))] []))
  refine own_go (fun _ k => XS.iload X3.here hx rfl (hb hby d5_35) rfl k) ?_
  refine own_go (fun _ k => XS.iload X3.here hx rfl (hb hby d5_37) rfl k) ?_
  show own_Fin _ _ _ _ _ _ _ (T3.setTop (mkF m 39 #[.val (.ref r0), .val (.int p1), .val (.int (xg 2)), .val (.ref b1), .val (.ref r0), .val (.int (3 : Int32)), .val (.int (2 : Int32)), .val (.int (xg 1))] [(.int (3 : Int32)), (.int (2 : Int32))]))
  refine own_go (fun _ k => XS.icmpNo X3.here hx rfl (hb hby d5_39) rfl (tlt (by decide)).2.1 k) ?_
  show own_Fin _ _ _ _ _ _ _ (T3.setTop (mkF m 42 #[.val (.ref r0), .val (.int p1), .val (.int (xg 2)), .val (.ref b1), .val (.ref r0), .val (.int (3 : Int32)), .val (.int (2 : Int32)), .val (.int (xg 1))] []))
  refine own_go (fun _ k => XS.aload X3.here hx rfl (hb hby d5_42) rfl rfl k) ?_
  refine own_go (fun _ k => XS.iload X3.here hx rfl (hb hby d5_44) rfl k) ?_
  refine own_go (fun tg k => own_iaload X3 hx hZ e3 A_r0_3 (j := (2 : Int32)) ⟨by decide, by decide⟩ (x := (xg 2)) rfl (g := (mkF m 46 #[.val (.ref r0), .val (.int p1), .val (.int (xg 2)), .val (.ref b1), .val (.ref r0), .val (.int (3 : Int32)), .val (.int (2 : Int32)), .val (.int (xg 1))] [(.int (2 : Int32)), (.ref r0)])) rfl rfl (hb hby d5_46) tg k) ?_
  show own_Fin _ _ _ _ _ _ _ (T3.setTop (mkF m 47 #[.val (.ref r0), .val (.int p1), .val (.int (xg 2)), .val (.ref b1), .val (.ref r0), .val (.int (3 : Int32)), .val (.int (2 : Int32)), .val (.int (xg 1))] [(.int (xg 2))]))
  refine own_go (fun _ k => XS.istore X3.here hx rfl (hb hby d5_47) rfl (l' := #[.val (.ref r0), .val (.int p1), .val (.int (xg 2)), .val (.ref b1), .val (.ref r0), .val (.int (3 : Int32)), .val (.int (2 : Int32)), .val (.int (xg 2))]) rfl k) ?_
  show own_Fin _ _ _ _ _ _ _ (T3.setTop (mkF m 49 #[.val (.ref r0), .val (.int p1), .val (.int (xg 2)), .val (.ref b1), .val (.ref r0), .val (.int (3 : Int32)), .val (.int (2 : Int32)), .val (.int (xg 2))] []))
  refine own_go (fun _ k => XS.aloadN X3.here hx rfl (hb hby d5_49) rfl rfl k) ?_
  refine own_go (fun _ k => XS.iload X3.here hx rfl (hb hby d5_50) rfl k) ?_
  refine own_go (fun _ k => XS.iloadN X3.here hx rfl (hb hby d5_52) rfl k) ?_
  refine own_go (fun _ k => XS.iushr X3.here hx rfl (hb hby d5_53) rfl k) ?_
  show own_Fin _ _ _ _ _ _ _ (T3.setTop (mkF m 54 #[.val (.ref r0), .val (.int p1), .val (.int (xg 2)), .val (.ref b1), .val (.ref r0), .val (.int (3 : Int32)), .val (.int (2 : Int32)), .val (.int (xg 2))] [(.int (own_iushr (xg 2) p1)), (.ref b1)]))
  refine own_go (fun _ k => XS.iconst X3.here hx rfl (hb hby d5_54) k) ?_
  refine own_go (fun _ k => XS.iadd X3.here hx rfl (hb hby d5_55) rfl k) ?_
  show own_Fin _ _ _ _ _ _ _ (T3.setTop (mkF m 56 #[.val (.ref r0), .val (.int p1), .val (.int (xg 2)), .val (.ref b1), .val (.ref r0), .val (.int (3 : Int32)), .val (.int (2 : Int32)), .val (.int (xg 2))] [(.int ((own_iushr (xg 2) p1) + (1 : Int32))), (.ref b1)]))
  refine own_go (fun _ k => Jvm.Free.XT.dup2 X3.here hx rfl (hb hby d5_56) rfl rfl rfl k) ?_
  show own_Fin _ _ _ _ _ _ _ (T3.setTop (mkF m 57 #[.val (.ref r0), .val (.int p1), .val (.int (xg 2)), .val (.ref b1), .val (.ref r0), .val (.int (3 : Int32)), .val (.int (2 : Int32)), .val (.int (xg 2))] [(.int ((own_iushr (xg 2) p1) + (1 : Int32))), (.ref b1), (.int ((own_iushr (xg 2) p1) + (1 : Int32))), (.ref b1)]))
  refine own_go (fun tg k => own_iaload X3 hx hZ e3 A_b1_3 (j := ((own_iushr (xg 2) p1) + (1 : Int32))) (own_bix2 hp) (x := (f3 ((own_iushr (xg 2) p1) + (1 : Int32)).toNatClampNeg)) rfl (g := (mkF m 57 #[.val (.ref r0), .val (.int p1), .val (.int (xg 2)), .val (.ref b1), .val (.ref r0), .val (.int (3 : Int32)), .val (.int (2 : Int32)), .val (.int (xg 2))] [(.int ((own_iushr (xg 2) p1) + (1 : Int32))), (.ref b1), (.int ((own_iushr (xg 2) p1) + (1 : Int32))), (.ref b1)])) rfl rfl (hb hby d5_57) tg k) ?_
  show own_Fin _ _ _ _ _ _ _ (T3.setTop (mkF m 58 #[.val (.ref r0), .val (.int p1), .val (.int (xg 2)), .val (.ref b1), .val (.ref r0), .val (.int (3 : Int32)), .val (.int (2 : Int32)), .val (.int (xg 2))] [(.int (f3 ((own_iushr (xg 2) p1) + (1 : Int32)).toNatClampNeg)), (.int ((own_iushr (xg 2) p1) + (1 : Int32))), (.ref b1)]))
  refine own_go (fun _ k => XS.iconst X3.here hx rfl (hb hby d5_58) k) ?_
  refine own_go (fun _ k => XS.iadd X3.here hx rfl (hb hby d5_59) rfl k) ?_
  show own_Fin _ _ _ _ _ _ _ (T3.setTop (mkF m 60 #[.val (.ref r0), .val (.int p1), .val (.int (xg 2)), .val (.ref b1), .val (.ref r0), .val (.int (3 : Int32)), .val (.int (2 : Int32)), .val (.int (xg 2))] [(.int ((f3 ((own_iushr (xg 2) p1) + (1 : Int32)).toNatClampNeg) + (1 : Int32))), (.int ((own_iushr (xg 2) p1) + (1 : Int32))), (.ref b1)]))
  obtain ⟨T4, h4, X4, e4, W4, A_b1_4, st4⟩ := own_stI X3 hx hZ e3 A_b1_3 (j := ((own_iushr (xg 2) p1) + (1 : Int32))) (own_bix2 hp) (g := (mkF m 60 #[.val (.ref r0), .val (.int p1), .val (.int (xg 2)), .val (.ref b1), .val (.ref r0), .val (.int (3 : Int32)), .val (.int (2 : Int32)), .val (.int (xg 2))] [(.int ((f3 ((own_iushr (xg 2) p1) + (1 : Int32)).toNatClampNeg) + (1 : Int32))), (.int ((own_iushr (xg 2) p1) + (1 : Int32))), (.ref b1)])) rfl rfl (hb hby d5_60)
  have A_r0_4 := A_r0_3.other W4 ne_r0_b1
  have K4 := K3.wr W4 (Or.inr sz_b1)
  have N4 := Fr.snoc X4 N3 ge_b1
  have Z4 : n0 ≤ h4.size := Nat.le_trans Z3 (Keep.of_wr W4).1
  obtain ⟨f4, hf4⟩ : ∃ z, z = (own_set f3 ((own_iushr (xg 2) p1) + (1 : Int32)) ((f3 ((own_iushr (xg 2) p1) + (1 : Int32)).toNatClampNeg) + (1 : Int32))) := ⟨_, rfl⟩
  rw [← hf4] at A_b1_4
  refine own_go (fun tg k => st4 tg k) ?_
  show own_Fin _ _ _ _ _ _ _ (T4.setTop (mkF m 61 #[.val (.ref r0), .val (.int p1), .val (.int (xg 2)), .val (.ref b1), .val (.ref r0), .val (.int (3 : Int32)), .val (.int (2 : Int32)), .val (.int (xg 2))] []))
  refine own_go (fun _ k => XS.iinc X4.here hx rfl (hb hby d5_61) rfl (l' := #[.val (.ref r0), .val (.int p1), .val (.int (xg 2)), .val (.ref b1), .val (.ref r0), .val (.int (3 : Int32)), .val (.int (3 : Int32)), .val (.int (xg 2))]) rfl k) ?_
  show own_Fin _ _ _ _ _ _ _ (T4.setTop (mkF m 64 #[.val (.ref r0), .val (.int p1), .val (.int (xg 2)), .val (.ref b1), .val (.ref r0), .val (.int (3 : Int32)), .val (.int (3 : Int32)), .val (.int (xg 2))] []))
  refine own_go (fun _ k => XS.goto X4.here hx rfl (pc0 := 64) (pc' := 35) rfl (hb hby d5_64) (by decide) (by decide) k) ?_
  show own_Fin _ _ _ _ _ _ _ (T4.setTop (mkF m 35 #[.val (.ref r0), .val (.int p1), .val (.int (xg 2)), .val (.ref b1), .val (.ref r0), .val (.int (3 : Int32)), .val (.int (3 : Int32)), .val (.int (xg 2))] []))
  refine own_go (fun _ k => XS.iload X4.here hx rfl (hb hby d5_35) rfl k) ?_
  refine own_go (fun _ k => XS.iload X4.here hx rfl (hb hby d5_37) rfl k) ?_
  show own_Fin _ _ _ _ _ _ _ (T4.setTop (mkF m 39 #[.val (.ref r0), .val (.int p1), .val (.int (xg 2)), .val (.ref b1), .val (.ref r0), .val (.int (3 : Int32)), .val (.int (3 : Int32)), .val (.int (xg 2))] [(.int (3 : Int32)), (.int (3 : Int32))]))
  refine own_go (fun _ k => XS.icmpYes X4.here hx rfl (pc0 := 39) (pc' := 67) rfl (hb hby d5_39) rfl (flt (by decide)).2.1 (by decide) (by decide) k) ?_
  show own_Fin _ _ _ _ _ _ _ (T4.setTop (mkF m 67 #[.val (.ref r0), .val (.int p1), .val (.int (xg 2)), .val (.ref b1), .val (.ref r0), .val (.int (3 : Int32)), .val (.int (3 : Int32)), .val (.int (xg 2))] []))
  by_cases hs5 : ((own_iushr (xg 2) p1) + (2 : Int32)) = (2 : Int32)
  · try rw [hs5]
    show own_Fin _ _ _ _ _ _ _ (T4.setTop (mkF m 67 #[.val (.ref r0), .val (.int p1), .val (.int (xg 2)), .val (.ref b1), .val (.ref r0), .val (.int (3 : Int32)), .val (.int (3 : Int32)), .val (.int (xg 2))] []))
    rw [hs5] at A_b1_4
    refine own_go (fun _ k => XS.iconst X4.here hx rfl (hb hby d5_67) k) ?_
    refine own_go (fun _ k => XS.istore X4.here hx rfl (hb hby d5_68) rfl (l' := #[.val (.ref r0), .val (.int p1), .val (.int (xg 2)), .val (.ref b1), .val (.int (1 : Int32)), .val (.int (3 : Int32)), .val (.int (3 : Int32)), .val (.int (xg 2))]) rfl k) ?_
    show own_Fin _ _ _ _ _ _ _ (T4.setTop (mkF m 70 #[.val (.ref r0), .val (.int p1), .val (.int (xg 2)), .val (.ref b1), .val (.int (1 : Int32)), .val (.int (3 : Int32)), .val (.int (3 : Int32)), .val (.int (xg 2))] []))
    refine own_go (fun _ k => XS.iload X4.here hx rfl (hb hby d5_70) rfl k) ?_
    refine own_go (fun _ k => XS.aloadN X4.here hx rfl (hb hby d5_72) rfl rfl k) ?_
    refine own_go (fun tg k => own_alen X4 hx hZ e4 A_b1_4 (g := (mkF m 73 #[.val (.ref r0), .val (.int p1), .val (.int (xg 2)), .val (.ref b1), .val (.int (1 : Int32)), .val (.int (3 : Int32)), .val (.int (3 : Int32)), .val (.int (xg 2))] [(.ref b1), (.int (1 : Int32))])) rfl rfl (hb hby d5_73) tg k) ?_
    show own_Fin _ _ _ _ _ _ _ (T4.setTop (mkF m 74 #[.val (.ref r0), .val (.int p1), .val (.int (xg 2)), .val (.ref b1), .val (.int (1 : Int32)), .val (.int (3 : Int32)), .val (.int (3 : Int32)), .val (.int (xg 2))] [(.int (2 : Int32)), (.int (1 : Int32))]))
    refine own_go (fun _ k => XS.icmpNo X4.here hx rfl (hb hby d5_74) rfl (tlt (by decide)).2.1 k) ?_
    show own_Fin _ _ _ _ _ _ _ (T4.setTop (mkF m 77 #[.val (.ref r0), .val (.int p1), .val (.int (xg 2)), .val (.ref b1), .val (.int (1 : Int32)), .val (.int (3 : Int32)), .val (.int (3 : Int32)), .val (.int (xg 2))] []))
    refine own_go (fun _ k => XS.aloadN X4.here hx rfl (hb hby d5_77) rfl rfl k) ?_
    refine own_go (fun _ k => XS.iload X4.here hx rfl (hb hby d5_78) rfl k) ?_
    show own_Fin _ _ _ _ _ _ _ (T4.setTop (mkF m 80 #[.val (.ref r0), .val (.int p1), .val (.int (xg 2)), .val (.ref b1), .val (.int (1 : Int32)), .val (.int (3 : Int32)), .val (.int (3 : Int32)), .val (.int (xg 2))] [(.int (1 : Int32)), (.ref b1)]))
    refine own_go (fun _ k => Jvm.Free.XT.dup2 X4.here hx rfl (hb hby d5_80) rfl rfl rfl k) ?_
    show own_Fin _ _ _ _ _ _ _ (T4.setTop (mkF m 81 #[.val (.ref r0), .val (.int p1), .val (.int (xg 2)), .val (.ref b1), .val (.int (1 : Int32)), .val (.int (3 : Int32)), .val (.int (3 : Int32)), .val (.int (xg 2))] [(.int (1 : Int32)), (.ref b1), (.int (1 : Int32)), (.ref b1)]))
    refine own_go (fun tg k => own_iaload X4 hx hZ e4 A_b1_4 (j := (1 : Int32)) ⟨by decide, by decide⟩ (x := (f4 1)) rfl (g := (mkF m 81 #[.val (.ref r0), .val (.int p1), .val (.int (xg 2)), .val (.ref b1), .val (.int (1 : Int32)), .val (.int (3 : Int32)), .val (.int (3 : Int32)), .val (.int (xg 2))] [(.int (1 : Int32)), (.ref b1), (.int (1 : Int32)), (.ref b1)])) rfl rfl (hb hby d5_81) tg k) ?_
    show own_Fin _ _ _ _ _ _ _ (T4.setTop (mkF m 82 #[.val (.ref r0), .val (.int p1), .val (.int (xg 2)), .val (.ref b1), .val (.int (1 : Int32)), .val (.int (3 : Int32)), .val (.int (3 : Int32)), .val (.int (xg 2))] [(.int (f4 1)), (.int (1 : Int32)), (.ref b1)]))
    refine own_go (fun _ k => XS.aloadN X4.here hx rfl (hb hby d5_82) rfl rfl k) ?_
    refine own_go (fun _ k => XS.iload X4.here hx rfl (hb hby d5_83) rfl k) ?_
    refine own_go (fun _ k => XS.iconst X4.here hx rfl (hb hby d5_85) k) ?_
    refine own_go (fun _ k => XS.isub X4.here hx rfl (hb hby d5_86) rfl k) ?_
    show own_Fin _ _ _ _ _ _ _ (T4.setTop (mkF m 87 #[.val (.ref r0), .val (.int p1), .val (.int (xg 2)), .val (.ref b1), .val (.int (1 : Int32)), .val (.int (3 : Int32)), .val (.int (3 : Int32)), .val (.int (xg 2))] [(.int (0 : Int32)), (.ref b1), (.int (f4 1)), (.int (1 : Int32)), (.ref b1)]))
    refine own_go (fun tg k => own_iaload X4 hx hZ e4 A_b1_4 (j := (0 : Int32)) ⟨by decide, by decide⟩ (x := (f4 0)) rfl (g := (mkF m 87 #[.val (.ref r0), .val (.int p1), .val (.int (xg 2)), .val (.ref b1), .val (.int (1 : Int32)), .val (.int (3 : Int32)), .val (.int (3 : Int32)), .val (.int (xg 2))] [(.int (0 : Int32)), (.ref b1), (.int (f4 1)), (.int (1 : Int32)), (.ref b1)])) rfl rfl (hb hby d5_87) tg k) ?_
    show own_Fin _ _ _ _ _ _ _ (T4.setTop (mkF m 88 #[.val (.ref r0), .val (.int p1), .val (.int (xg 2)), .val (.ref b1), .val (.int (1 : Int32)), .val (.int (3 : Int32)), .val (.int (3 : Int32)), .val (.int (xg 2))] [(.int (f4 0)), (.int (f4 1)), (.int (1 : Int32)), (.ref b1)]))
    refine own_go (fun _ k => XS.iadd X4.here hx rfl (hb hby d5_88) rfl k) ?_
    show own_Fin _ _ _ _ _ _ _ (T4.setTop (mkF m 89 #[.val (.ref r0), .val (.int p1), .val (.int (xg 2)), .val (.ref b1), .val (.int (1 : Int32)), .val (.int (3 : Int32)), .val (.int (3 : Int32)), .val (.int (xg 2))] [(.int ((f4 1) + (f4 0))), (.int (1 : Int32)), (.ref b1)]))
    obtain ⟨T6, h6, X6, e6, W6, A_b1_6, st6⟩ := own_stI X4 hx hZ e4 A_b1_4 (j := (1 : Int32)) ⟨by decide, by decide⟩ (g := (mkF m 89 #[.val (.ref r0), .val (.int p1), .val (.int (xg 2)), .val (.ref b1), .val (.int (1 : Int32)), .val (.int (3 : Int32)), .val (.int (3 : Int32)), .val (.int (xg 2))] [(.int ((f4 1) + (f4 0))), (.int (1 : Int32)), (.ref b1)])) rfl rfl (hb hby d5_89)
    have A_r0_6 := A_r0_4.other W6 ne_r0_b1
    have K6 := K4.wr W6 (Or.inr sz_b1)
    have N6 := Fr.snoc X6 N4 ge_b1
    have Z6 : n0 ≤ h6.size := Nat.le_trans Z4 (Keep.of_wr W6).1
    obtain ⟨f6, hf6⟩ : ∃ z, z = (own_set f4 (1 : Int32) ((f4 1) + (f4 0))) := ⟨_, rfl⟩
    rw [← hf6] at A_b1_6
    refine own_go (fun tg k => st6 tg k) ?_
    show own_Fin _ _ _ _ _ _ _ (T6.setTop (mkF m 90 #[.val (.ref r0), .val (.int p1), .val (.int (xg 2)), .val (.ref b1), .val (.int (1 : Int32)), .val (.int (3 : Int32)), .val (.int (3 : Int32)), .val (.int (xg 2))] []))
    refine own_go (fun _ k => XS.iinc X6.here hx rfl (hb hby d5_90) rfl (l' := #[.val (.ref r0), .val (.int p1), .val (.int (xg 2)), .val (.ref b1), .val (.int (2 : Int32)), .val (.int (3 : Int32)), .val (.int (3 : Int32)), .val (.int (xg 2))]) rfl k) ?_
    show own_Fin _ _ _ _ _ _ _ (T6.setTop (mkF m 93 #[.val (.ref r0), .val (.int p1), .val (.int (xg 2)), .val (.ref b1), .val (.int (2 : Int32)), .val (.int (3 : Int32)), .val (.int (3 : Int32)), .val (.int (xg 2))] []))
    refine own_go (fun _ k => XS.goto X6.here hx rfl (pc0 := 93) (pc' := 70) rfl (hb hby d5_93) (by decide) (by decide) k) ?_
    show own_Fin _ _ _ _ _ _ _ (T6.setTop (mkF m 70 #[.val (.ref r0), .val (.int p1), .val (.int (xg 2)), .val (.ref b1), .val (.int (2 : Int32)), .val (.int (3 : Int32)), .val (.int (3 : Int32)), .val (.int (xg 2))] []))
    refine own_go (fun _ k => XS.iload X6.here hx rfl (hb hby d5_70) rfl k) ?_
    refine own_go (fun _ k => XS.aloadN X6.here hx rfl (hb hby d5_72) rfl rfl k) ?_
    refine own_go (fun tg k => own_alen X6 hx hZ e6 A_b1_6 (g := (mkF m 73 #[.val (.ref r0), .val (.int p1), .val (.int (xg 2)), .val (.ref b1), .val (.int (2 : Int32)), .val (.int (3 : Int32)), .val (.int (3 : Int32)), .val (.int (xg 2))] [(.ref b1), (.int (2 : Int32))])) rfl rfl (hb hby d5_73) tg k) ?_
    show own_Fin _ _ _ _ _ _ _ (T6.setTop (mkF m 74 #[.val (.ref r0), .val (.int p1), .val (.int (xg 2)), .val (.ref b1), .val (.int (2 : Int32)), .val (.int (3 : Int32)), .val (.int (3 : Int32)), .val (.int (xg 2))] [(.int (2 : Int32)), (.int (2 : Int32))]))
    refine own_go (fun _ k => XS.icmpYes X6.here hx rfl (pc0 := 74) (pc' := 96) rfl (hb hby d5_74) rfl (flt (by decide)).2.1 (by decide) (by decide) k) ?_
    show own_Fin _ _ _ _ _ _ _ (T6.setTop (mkF m 96 #[.val (.ref r0), .val (.int p1), .val (.int (xg 2)), .val (.ref b1), .val (.int (2 : Int32)), .val (.int (3 : Int32)), .val (.int (3 : Int32)), .val (.int (xg 2))] []))
    refine own_go (fun _ k => XS.aloadN X6.here hx rfl (hb hby d5_96) rfl rfl k) ?_
    show own_Fin _ _ _ _ _ _ _ (T6.setTop (mkF m 97 #[.val (.ref r0), .val (.int p1), .val (.int (xg 2)), .val (.ref b1), .val (.int (2 : Int32)), .val (.int (3 : Int32)), .val (.int (3 : Int32)), .val (.int (xg 2))] [(.ref b1)]))
    refine own_ret X6 hx hlk Bd.returns rfl (Or.inr (Or.inr (Or.inr (Or.inr ⟨rfl, rfl, rfl⟩)))) (hb hby d5_97) (Nat.le_of_ble_eq_true rfl) (Nat.le_of_ble_eq_true rfl) ?_
    rw [e6]
    refine ⟨b1, f6, ?_, N6, K6, sz_b1, ?_, ?_⟩
    · first | (simp only [if_pos hs5]; done) | (simp only [if_pos hs5]; rfl) | rfl
    · (first | exact A_b1_6 | (rw [hs5]; exact A_b1_6))
    · first | (exact own_bspec2 hp hs5 hf2 hf3 hf4 hf6) | (simp only [if_pos hs5]; exact own_bspec2 hp hs5 hf2 hf3 hf4 hf6)
  · by_cases hs7 : ((own_iushr (xg 2) p1) + (2 : Int32)) = (3 : Int32)
    · try rw [hs7]
      show own_Fin _ _ _ _ _ _ _ (T4.setTop (mkF m 67 #[.val (.ref r0), .val (.int p1), .val (.int (xg 2)), .val (.ref b1), .val (.ref r0), .val (.int (3 : Int32)), .val (.int (3 : Int32)), .val (.int (xg 2))] []))
      rw [hs7] at A_b1_4
      refine own_go (fun _ k => XS.iconst X4.here hx rfl (hb hby d5_67) k) ?_
      refine own_go (fun _ k => XS.istore X4.here hx rfl (hb hby d5_68) rfl (l' := #[.val (.ref r0), .val (.int p1), .val (.int (xg 2)), .val (.ref b1), .val (.int (1 : Int32)), .val (.int (3 : Int32)), .val (.int (3 : Int32)), .val (.int (xg 2))]) rfl k) ?_
      show own_Fin _ _ _ _ _ _ _ (T4.setTop (mkF m 70 #[.val (.ref r0), .val (.int p1), .val (.int (xg 2)), .val (.ref b1), .val (.int (1 : Int32)), .val (.int (3 : Int32)), .val (.int (3 : Int32)), .val (.int (xg 2))] []))
      refine own_go (fun _ k => XS.iload X4.here hx rfl (hb hby d5_70) rfl k) ?_
      refine own_go (fun _ k => XS.aloadN X4.here hx rfl (hb hby d5_72) rfl rfl k) ?_
      refine own_go (fun tg k => own_alen X4 hx hZ e4 A_b1_4 (g := (mkF m 73 #[.val (.ref r0), .val (.int p1), .val (.int (xg 2)), .val (.ref b1), .val (.int (1 : Int32)), .val (.int (3 : Int32)), .val (.int (3 : Int32)), .val (.int (xg 2))] [(.ref b1), (.int (1 : Int32))])) rfl rfl (hb hby d5_73) tg k) ?_
      show own_Fin _ _ _ _ _ _ _ (T4.setTop (mkF m 74 #[.val (.ref r0), .val (.int p1), .val (.int (xg 2)), .val (.ref b1), .val (.int (1 : Int32)), .val (.int (3 : Int32)), .val (.int (3 : Int32)), .val (.int (xg 2))] [(.int (3 : Int32)), (.int (1 : Int32))]))
      refine own_go (fun _ k => XS.icmpNo X4.here hx rfl (hb hby d5_74) rfl (tlt (by decide)).2.1 k) ?_
      show own_Fin _ _ _ _ _ _ _ (T4.setTop (mkF m 77 #[.val (.ref r0), .val (.int p1), .val (.int (xg 2)), .val (.ref b1), .val (.int (1 : Int32)), .val (.int (3 : Int32)), .val (.int (3 : Int32)), .val (.int (xg 2))] []))
      refine own_go (fun _ k => XS.aloadN X4.here hx rfl (hb hby d5_77) rfl rfl k) ?_
      refine own_go (fun _ k => XS.iload X4.here hx rfl (hb hby d5_78) rfl k) ?_
      show own_Fin _ _ _ _ _ _ _ (T4.setTop (mkF m 80 #[.val (.ref r0), .val (.int p1), .val (.int (xg 2)), .val (.ref b1), .val (.int (1 : Int32)), .val (.int (3 : Int32)), .val (.int (3 : Int32)), .val (.int (xg 2))] [(.int (1 : Int32)), (.ref b1)]))
      refine own_go (fun _ k => Jvm.Free.XT.dup2 X4.here hx rfl (hb hby d5_80) rfl rfl rfl k) ?_
      show own_Fin _ _ _ _ _ _ _ (T4.setTop (mkF m 81 #[.val (.ref r0), .val (.int p1), .val (.int (xg 2)), .val (.ref b1), .val (.int (1 : Int32)), .val (.int (3 : Int32)), .val (.int (3 : Int32)), .val (.int (xg 2))] [(.int (1 : Int32)), (.ref b1), (.int (1 : Int32)), (.ref b1)]))
      refine own_go (fun tg k => own_iaload X4 hx hZ e4 A_b1_4 (j := (1 : Int32)) ⟨by decide, by decide⟩ (x := (f4 1)) rfl (g := (mkF m 81 #[.val (.ref r0), .val (.int p1), .val (.int (xg 2)), .val (.ref b1), .val (.int (1 : Int32)), .val (.int (3 : Int32)), .val (.int (3 : Int32)), .val (.int (xg 2))] [(.int (1 : Int32)), (.ref b1), (.int (1 : Int32)), (.ref b1)])) rfl rfl (hb hby d5_81) tg k) ?_
      show own_Fin _ _ _ _ _ _ _ (T4.setTop (mkF m 82 #[.val (.ref r0), .val (.int p1), .val (.int (xg 2)), .val (.ref b1), .val (.int (1 : Int32)), .val (.int (3 : Int32)), .val (.int (3 : Int32)), .val (.int (xg 2))] [(.int (f4 1)), (.int (1 : Int32)), (.ref b1)]))
      refine own_go (fun _ k => XS.aloadN X4.here hx rfl (hb hby d5_82) rfl rfl k) ?_
      refine own_go (fun _ k => XS.iload X4.here hx rfl (hb hby d5_83) rfl k) ?_
      refine own_go (fun _ k => XS.iconst X4.here hx rfl (hb hby d5_85) k) ?_
      refine own_go (fun _ k => XS.isub X4.here hx rfl (hb hby d5_86) rfl k) ?_
      show own_Fin _ _ _ _ _ _ _ (T4.setTop (mkF m 87 #[.val (.ref r0), .val (.int p1), .val (.int (xg 2)), .val (.ref b1), .val (.int (1 : Int32)), .val (.int (3 : Int32)), .val (.int (3 : Int32)), .val (.int (xg 2))] [(.int (0 : Int32)), (.ref b1), (.int (f4 1)), (.int (1 : Int32)), (.ref b1)]))
      refine own_go (fun tg k => own_iaload X4 hx hZ e4 A_b1_4 (j := (0 : Int32)) ⟨by decide, by decide⟩ (x := (f4 0)) rfl (g := (mkF m 87 #[.val (.ref r0), .val (.int p1), .val (.int (xg 2)), .val (.ref b1), .val (.int (1 : Int32)), .val (.int (3 : Int32)), .val (.int (3 : Int32)), .val (.int (xg 2))] [(.int (0 : Int32)), (.ref b1), (.int (f4 1)), (.int (1 : Int32)), (.ref b1)])) rfl rfl (hb hby d5_87) tg k) ?_
      show own_Fin _ _ _ _ _ _ _ (T4.setTop (mkF m 88 #[.val (.ref r0), .val (.int p1), .val (.int (xg 2)), .val (.ref b1), .val (.int (1 : Int32)), .val (.int (3 : Int32)), .val (.int (3 : Int32)), .val (.int (xg 2))] [(.int (f4 0)), (.int (f4 1)), (.int (1 : Int32)), (.ref b1)]))
      refine own_go (fun _ k => XS.iadd X4.here hx rfl (hb hby d5_88) rfl k) ?_
      show own_Fin _ _ _ _ _ _ _ (T4.setTop (mkF m 89 #[.val (.ref r0), .val (.int p1), .val (.int (xg 2)), .val (.ref b1), .val (.int (1 : Int32)), .val (.int (3 : Int32)), .val (.int (3 : Int32)), .val (.int (xg 2))] [(.int ((f4 1) + (f4 0))), (.int (1 : Int32)), (.ref b1)]))
      obtain ⟨T8, h8, X8, e8, W8, A_b1_8, st8⟩ := own_stI X4 hx hZ e4 A_b1_4 (j := (1 : Int32)) ⟨by decide, by decide⟩ (g := (mkF m 89 #[.val (.ref r0), .val (.int p1), .val (.int (xg 2)), .val (.ref b1), .val (.int (1 : Int32)), .val (.int (3 : Int32)), .val (.int (3 : Int32)), .val (.int (xg 2))] [(.int ((f4 1) + (f4 0))), (.int (1 : Int32)), (.ref b1)])) rfl rfl (hb hby d5_89)
      have A_r0_8 := A_r0_4.other W8 ne_r0_b1
      have K8 := K4.wr W8 (Or.inr sz_b1)
      have N8 := Fr.snoc X8 N4 ge_b1
      have Z8 : n0 ≤ h8.size := Nat.le_trans Z4 (Keep.of_wr W8).1
      obtain ⟨f8, hf8⟩ : ∃ z, z = (own_set f4 (1 : Int32) ((f4 1) + (f4 0))) := ⟨_, rfl⟩
      rw [← hf8] at A_b1_8
      refine own_go (fun tg k => st8 tg k) ?_
      show own_Fin _ _ _ _ _ _ _ (T8.setTop (mkF m 90 #[.val (.ref r0), .val (.int p1), .val (.int (xg 2)), .val (.ref b1), .val (.int (1 : Int32)), .val (.int (3 : Int32)), .val (.int (3 : Int32)), .val (.int (xg 2))] []))
      refine own_go (fun _ k => XS.iinc X8.here hx rfl (hb hby d5_90) rfl (l' := #[.val (.ref r0), .val (.int p1), .val (.int (xg 2)), .val (.ref b1), .val (.int (2 : Int32)), .val (.int (3 : Int32)), .val (.int (3 : Int32)), .val (.int (xg 2))]) rfl k) ?_
      show own_Fin _ _ _ _ _ _ _ (T8.setTop (mkF m 93 #[.val (.ref r0), .val (.int p1), .val (.int (xg 2)), .val (.ref b1), .val (.int (2 : Int32)), .val (.int (3 : Int32)), .val (.int (3 : Int32)), .val (.int (xg 2))] []))
      refine own_go (fun _ k => XS.goto X8.here hx rfl (pc0 := 93) (pc' := 70) rfl (hb hby d5_93) (by decide) (by decide) k) ?_
      show own_Fin _ _ _ _ _ _ _ (T8.setTop (mkF m 70 #[.val (.ref r0), .val (.int p1), .val (.int (xg 2)), .val (.ref b1), .val (.int (2 : Int32)), .val (.int (3 : Int32)), .val (.int (3 : Int32)), .val (.int (xg 2))] []))
      refine own_go (fun _ k => XS.iload X8.here hx rfl (hb hby d5_70) rfl k) ?_
      refine own_go (fun _ k => XS.aloadN X8.here hx rfl (hb hby d5_72) rfl rfl k) ?_
      refine own_go (fun tg k => own_alen X8 hx hZ e8 A_b1_8 (g := (mkF m 73 #[.val (.ref r0), .val (.int p1), .val (.int (xg 2)), .val (.ref b1), .val (.int (2 : Int32)), .val (.int (3 : Int32)), .val (.int (3 : Int32)), .val (.int (xg 2))] [(.ref b1), (.int (2 : Int32))])) rfl rfl (hb hby d5_73) tg k) ?_
      show own_Fin _ _ _ _ _ _ _ (T8.setTop (mkF m 74 #[.val (.ref r0), .val (.int p1), .val (.int (xg 2)), .val (.ref b1), .val (.int (2 : Int32)), .val (.int (3 : Int32)), .val (.int (3 : Int32)), .val (.int (xg 2))] [(.int (3 : Int32)), (.int (2 : Int32))]))
      refine own_go (fun _ k => XS.icmpNo X8.here hx rfl (hb hby d5_74) rfl (tlt (by decide)).2.1 k) ?_
      show own_Fin _ _ _ _ _ _ _ (T8.setTop (mkF m 77 #[.val (.ref r0), .val (.int p1), .val (.int (xg 2)), .val (.ref b1), .val (.int (2 : Int32)), .val (.int (3 : Int32)), .val (.int (3 : Int32)), .val (.int (xg 2))] []))
      refine own_go (fun _ k => XS.aloadN X8.here hx rfl (hb hby d5_77) rfl rfl k) ?_
      refine own_go (fun _ k => XS.iload X8.here hx rfl (hb hby d5_78) rfl k) ?_
      show own_Fin _ _ _ _ _ _ _ (T8.setTop (mkF m 80 #[.val (.ref r0), .val (.int p1), .val (.int (xg 2)), .val (.ref b1), .val (.int (2 : Int32)), .val (.int (3 : Int32)), .val (.int (3 : Int32)), .val (.int (xg 2))] [(.int (2 : Int32)), (.ref b1)]))
      refine own_go (fun _ k => Jvm.Free.XT.dup2 X8.here hx rfl (hb hby d5_80) rfl rfl rfl k) ?_
      show own_Fin _ _ _ _ _ _ _ (T8.setTop (mkF m 81 #[.val (.ref r0), .val (.int p1), .val (.int (xg 2)), .val (.ref b1), .val (.int (2 : Int32)), .val (.int (3 : Int32)), .val (.int (3 : Int32)), .val (.int (xg 2))] [(.int (2 : Int32)), (.ref b1), (.int (2 : Int32)), (.ref b1)]))
      refine own_go (fun tg k => own_iaload X8 hx hZ e8 A_b1_8 (j := (2 : Int32)) ⟨by decide, by decide⟩ (x := (f8 2)) rfl (g := (mkF m 81 #[.val (.ref r0), .val (.int p1), .val (.int (xg 2)), .val (.ref b1), .val (.int (2 : Int32)), .val (.int (3 : Int32)), .val (.int (3 : Int32)), .val (.int (xg 2))] [(.int (2 : Int32)), (.ref b1), (.int (2 : Int32)), (.ref b1)])) rfl rfl (hb hby d5_81) tg k) ?_
      show own_Fin _ _ _ _ _ _ _ (T8.setTop (mkF m 82 #[.val (.ref r0), .val (.int p1), .val (.int (xg 2)), .val (.ref b1), .val (.int (2 : Int32)), .val (.int (3 : Int32)), .val (.int (3 : Int32)), .val (.int (xg 2))] [(.int (f8 2)), (.int (2 : Int32)), (.ref b1)]))
      refine own_go (fun _ k => XS.aloadN X8.here hx rfl (hb hby d5_82) rfl rfl k) ?_
      refine own_go (fun _ k => XS.iload X8.here hx rfl (hb hby d5_83) rfl k) ?_
      refine own_go (fun _ k => XS.iconst X8.here hx rfl (hb hby d5_85) k) ?_
      refine own_go (fun _ k => XS.isub X8.here hx rfl (hb hby d5_86) rfl k) ?_
      show own_Fin _ _ _ _ _ _ _ (T8.setTop (mkF m 87 #[.val (.ref r0), .val (.int p1), .val (.int (xg 2)), .val (.ref b1), .val (.int (2 : Int32)), .val (.int (3 : Int32)), .val (.int (3 : Int32)), .val (.int (xg 2))] [(.int (1 : Int32)), (.ref b1), (.int (f8 2)), (.int (2 : Int32)), (.ref b1)]))
      refine own_go (fun tg k => own_iaload X8 hx hZ e8 A_b1_8 (j := (1 : Int32)) ⟨by decide, by decide⟩ (x := (f8 1)) rfl (g := (mkF m 87 #[.val (.ref r0), .val (.int p1), .val (.int (xg 2)), .val (.ref b1), .val (.int (2 : Int32)), .val (.int (3 : Int32)), .val (.int (3 : Int32)), .val (.int (xg 2))] [(.int (1 : Int32)), (.ref b1), (.int (f8 2)), (.int (2 : Int32)), (.ref b1)])) rfl rfl (hb hby d5_87) tg k) ?_
      show own_Fin _ _ _ _ _ _ _ (T8.setTop (mkF m 88 #[.val (.ref r0), .val (.int p1), .val (.int (xg 2)), .val (.ref b1), .val (.int (2 : Int32)), .val (.int (3 : Int32)), .val (.int (3 : Int32)), .val (.int (xg 2))] [(.int (f8 1)), (.int (f8 2)), (.int (2 : Int32)), (.ref b1)]))
      refine own_go (fun _ k => XS.iadd X8.here hx rfl (hb hby d5_88) rfl k) ?_
      show own_Fin _ _ _ _ _ _ _ (T8.setTop (mkF m 89 #[.val (.ref r0), .val (.int p1), .val (.int (xg 2)), .val (.ref b1), .val (.int (2 : Int32)), .val (.int (3 : Int32)), .val (.int (3 : Int32)), .val (.int (xg 2))] [(.int ((f8 2) + (f8 1))), (.int (2 : Int32)), (.ref b1)]))
      obtain ⟨T9, h9, X9, e9, W9, A_b1_9, st9⟩ := own_stI X8 hx hZ e8 A_b1_8 (j := (2 : Int32)) ⟨by decide, by decide⟩ (g := (mkF m 89 #[.val (.ref r0), .val (.int p1), .val (.int (xg 2)), .val (.ref b1), .val (.int (2 : Int32)), .val (.int (3 : Int32)), .val (.int (3 : Int32)), .val (.int (xg 2))] [(.int ((f8 2) + (f8 1))), (.int (2 : Int32)), (.ref b1)])) rfl rfl (hb hby d5_89)
      have A_r0_9 := A_r0_8.other W9 ne_r0_b1
      have K9 := K8.wr W9 (Or.inr sz_b1)
      have N9 := Fr.snoc X9 N8 ge_b1
      have Z9 : n0 ≤ h9.size := Nat.le_trans Z8 (Keep.of_wr W9).1
      obtain ⟨f9, hf9⟩ : ∃ z, z = (own_set f8 (2 : Int32) ((f8 2) + (f8 1))) := ⟨_, rfl⟩
      rw [← hf9] at A_b1_9
      refine own_go (fun tg k => st9 tg k) ?_
      show own_Fin _ _ _ _ _ _ _ (T9.setTop (mkF m 90 #[.val (.ref r0), .val (.int p1), .val (.int (xg 2)), .val (.ref b1), .val (.int (2 : Int32)), .val (.int (3 : Int32)), .val (.int (3 : Int32)), .val (.int (xg 2))] []))
      refine own_go (fun _ k => XS.iinc X9.here hx rfl (hb hby d5_90) rfl (l' := #[.val (.ref r0), .val (.int p1), .val (.int (xg 2)), .val (.ref b1), .val (.int (3 : Int32)), .val (.int (3 : Int32)), .val (.int (3 : Int32)), .val (.int (xg 2))]) rfl k) ?_
      show own_Fin _ _ _ _ _ _ _ (T9.setTop (mkF m 93 #[.val (.ref r0), .val (.int p1), .val (.int (xg 2)), .val (.ref b1), .val (.int (3 : Int32)), .val (.int (3 : Int32)), .val (.int (3 : Int32)), .val (.int (xg 2))] []))
      refine own_go (fun _ k => XS.goto X9.here hx rfl (pc0 := 93) (pc' := 70) rfl (hb hby d5_93) (by decide) (by decide) k) ?_
      show own_Fin _ _ _ _ _ _ _ (T9.setTop (mkF m 70 #[.val (.ref r0), .val (.int p1), .val (.int (xg 2)), .val (.ref b1), .val (.int (3 : Int32)), .val (.int (3 : Int32)), .val (.int (3 : Int32)), .val (.int (xg 2))] []))
      refine own_go (fun _ k => XS.iload X9.here hx rfl (hb hby d5_70) rfl k) ?_
      refine own_go (fun _ k => XS.aloadN X9.here hx rfl (hb hby d5_72) rfl rfl k) ?_
      refine own_go (fun tg k => own_alen X9 hx hZ e9 A_b1_9 (g := (mkF m 73 #[.val (.ref r0), .val (.int p1), .val (.int (xg 2)), .val (.ref b1), .val (.int (3 : Int32)), .val (.int (3 : Int32)), .val (.int (3 : Int32)), .val (.int (xg 2))] [(.ref b1), (.int (3 : Int32))])) rfl rfl (hb hby d5_73) tg k) ?_
      show own_Fin _ _ _ _ _ _ _ (T9.setTop (mkF m 74 #[.val (.ref r0), .val (.int p1), .val (.int (xg 2)), .val (.ref b1), .val (.int (3 : Int32)), .val (.int (3 : Int32)), .val (.int (3 : Int32)), .val (.int (xg 2))] [(.int (3 : Int32)), (.int (3 : Int32))]))
      refine own_go (fun _ k => XS.icmpYes X9.here hx rfl (pc0 := 74) (pc' := 96) rfl (hb hby d5_74) rfl (flt (by decide)).2.1 (by decide) (by decide) k) ?_
      show own_Fin _ _ _ _ _ _ _ (T9.setTop (mkF m 96 #[.val (.ref r0), .val (.int p1), .val (.int (xg 2)), .val (.ref b1), .val (.int (3 : Int32)), .val (.int (3 : Int32)), .val (.int (3 : Int32)), .val (.int (xg 2))] []))
      refine own_go (fun _ k => XS.aloadN X9.here hx rfl (hb hby d5_96) rfl rfl k) ?_
      show own_Fin _ _ _ _ _ _ _ (T9.setTop (mkF m 97 #[.val (.ref r0), .val (.int p1), .val (.int (xg 2)), .val (.ref b1), .val (.int (3 : Int32)), .val (.int (3 : Int32)), .val (.int (3 : Int32)), .val (.int (xg 2))] [(.ref b1)]))
      refine own_ret X9 hx hlk Bd.returns rfl (Or.inr (Or.inr (Or.inr (Or.inr ⟨rfl, rfl, rfl⟩)))) (hb hby d5_97) (Nat.le_of_ble_eq_true rfl) (Nat.le_of_ble_eq_true rfl) ?_
      rw [e9]
      refine ⟨b1, f9, ?_, N9, K9, sz_b1, ?_, ?_⟩
      · first | (simp only [if_neg hs5, if_pos hs7]; done) | (simp only [if_neg hs5, if_pos hs7]; rfl) | rfl
      · (first | exact A_b1_9 | (rw [hs7]; exact A_b1_9))
      · first | (exact own_bspec3 hp hs7 hf2 hf3 hf4 hf8 hf9) | (simp only [if_neg hs5, if_pos hs7]; exact own_bspec3 hp hs7 hf2 hf3 hf4 hf8 hf9)
    · have hs10 : ((own_iushr (xg 2) p1) + (2 : Int32)) = (4 : Int32) := own_len4 hp hs5 hs7
      try rw [hs10]
      show own_Fin _ _ _ _ _ _ _ (T4.setTop (mkF m 67 #[.val (.ref r0), .val (.int p1), .val (.int (xg 2)), .val (.ref b1), .val (.ref r0), .val (.int (3 : Int32)), .val (.int (3 : Int32)), .val (.int (xg 2))] []))
      rw [hs10] at A_b1_4
      refine own_go (fun _ k => XS.iconst X4.here hx rfl (hb hby d5_67) k) ?_
      refine own_go (fun _ k => XS.istore X4.here hx rfl (hb hby d5_68) rfl (l' := #[.val (.ref r0), .val (.int p1), .val (.int (xg 2)), .val (.ref b1), .val (.int (1 : Int32)), .val (.int (3 : Int32)), .val (.int (3 : Int32)), .val (.int (xg 2))]) rfl k) ?_
      show own_Fin _ _ _ _ _ _ _ (T4.setTop (mkF m 70 #[.val (.ref r0), .val (.int p1), .val (.int (xg 2)), .val (.ref b1), .val (.int (1 : Int32)), .val (.int (3 : Int32)), .val (.int (3 : Int32)), .val (.int (xg 2))] []))
      refine own_go (fun _ k => XS.iload X4.here hx rfl (hb hby d5_70) rfl k) ?_
      refine own_go (fun _ k => XS.aloadN X4.here hx rfl (hb hby d5_72) rfl rfl k) ?_
      refine own_go (fun tg k => own_alen X4 hx hZ e4 A_b1_4 (g := (mkF m 73 #[.val (.ref r0), .val (.int p1), .val (.int (xg 2)), .val (.ref b1), .val (.int (1 : Int32)), .val (.int (3 : Int32)), .val (.int (3 : Int32)), .val (.int (xg 2))] [(.ref b1), (.int (1 : Int32))])) rfl rfl (hb hby d5_73) tg k) ?_
      show own_Fin _ _ _ _ _ _ _ (T4.setTop (mkF m 74 #[.val (.ref r0), .val (.int p1), .val (.int (xg 2)), .val (.ref b1), .val (.int (1 : Int32)), .val (.int (3 : Int32)), .val (.int (3 : Int32)), .val (.int (xg 2))] [(.int (4 : Int32)), (.int (1 : Int32))]))
      refine own_go (fun _ k => XS.icmpNo X4.here hx rfl (hb hby d5_74) rfl (tlt (by decide)).2.1 k) ?_
      show own_Fin _ _ _ _ _ _ _ (T4.setTop (mkF m 77 #[.val (.ref r0), .val (.int p1), .val (.int (xg 2)), .val (.ref b1), .val (.int (1 : Int32)), .val (.int (3 : Int32)), .val (.int (3 : Int32)), .val (.int (xg 2))] []))
      refine own_go (fun _ k => XS.aloadN X4.here hx rfl (hb hby d5_77) rfl rfl k) ?_
      refine own_go (fun _ k => XS.iload X4.here hx rfl (hb hby d5_78) rfl k) ?_
      show own_Fin _ _ _ _ _ _ _ (T4.setTop (mkF m 80 #[.val (.ref r0), .val (.int p1), .val (.int (xg 2)), .val (.ref b1), .val (.int (1 : Int32)), .val (.int (3 : Int32)), .val (.int (3 : Int32)), .val (.int (xg 2))] [(.int (1 : Int32)), (.ref b1)]))
      refine own_go (fun _ k => Jvm.Free.XT.dup2 X4.here hx rfl (hb hby d5_80) rfl rfl rfl k) ?_
      show own_Fin _ _ _ _ _ _ _ (T4.setTop (mkF m 81 #[.val (.ref r0), .val (.int p1), .val (.int (xg 2)), .val (.ref b1), .val (.int (1 : Int32)), .val (.int (3 : Int32)), .val (.int (3 : Int32)), .val (.int (xg 2))] [(.int (1 : Int32)), (.ref b1), (.int (1 : Int32)), (.ref b1)]))
      refine own_go (fun tg k => own_iaload X4 hx hZ e4 A_b1_4 (j := (1 : Int32)) ⟨by decide, by decide⟩ (x := (f4 1)) rfl (g := (mkF m 81 #[.val (.ref r0), .val (.int p1), .val (.int (xg 2)), .val (.ref b1), .val (.int (1 : Int32)), .val (.int (3 : Int32)), .val (.int (3 : Int32)), .val (.int (xg 2))] [(.int (1 : Int32)), (.ref b1), (.int (1 : Int32)), (.ref b1)])) rfl rfl (hb hby d5_81) tg k) ?_
      show own_Fin _ _ _ _ _ _ _ (T4.setTop (mkF m 82 #[.val (.ref r0), .val (.int p1), .val (.int (xg 2)), .val (.ref b1), .val (.int (1 : Int32)), .val (.int (3 : Int32)), .val (.int (3 : Int32)), .val (.int (xg 2))] [(.int (f4 1)), (.int (1 : Int32)), (.ref b1)]))
      refine own_go (fun _ k => XS.aloadN X4.here hx rfl (hb hby d5_82) rfl rfl k) ?_
      refine own_go (fun _ k => XS.iload X4.here hx rfl (hb hby d5_83) rfl k) ?_
      refine own_go (fun _ k => XS.iconst X4.here hx rfl (hb hby d5_85) k) ?_
      refine own_go (fun _ k => XS.isub X4.here hx rfl (hb hby d5_86) rfl k) ?_
      show own_Fin _ _ _ _ _ _ _ (T4.setTop (mkF m 87 #[.val (.ref r0), .val (.int p1), .val (.int (xg 2)), .val (.ref b1), .val (.int (1 : Int32)), .val (.int (3 : Int32)), .val (.int (3 : Int32)), .val (.int (xg 2))] [(.int (0 : Int32)), (.ref b1), (.int (f4 1)), (.int (1 : Int32)), (.ref b1)]))
      refine own_go (fun tg k => own_iaload X4 hx hZ e4 A_b1_4 (j := (0 : Int32)) ⟨by decide, by decide⟩ (x := (f4 0)) rfl (g := (mkF m 87 #[.val (.ref r0), .val (.int p1), .val (.int (xg 2)), .val (.ref b1), .val (.int (1 : Int32)), .val (.int (3 : Int32)), .val (.int (3 : Int32)), .val (.int (xg 2))] [(.int (0 : Int32)), (.ref b1), (.int (f4 1)), (.int (1 : Int32)), (.ref b1)])) rfl rfl (hb hby d5_87) tg k) ?_
      show own_Fin _ _ _ _ _ _ _ (T4.setTop (mkF m 88 #[.val (.ref r0), .val (.int p1), .val (.int (xg 2)), .val (.ref b1), .val (.int (1 : Int32)), .val (.int (3 : Int32)), .val (.int (3 : Int32)), .val (.int (xg 2))] [(.int (f4 0)), (.int (f4 1)), (.int (1 : Int32)), (.ref b1)]))
      refine own_go (fun _ k => XS.iadd X4.here hx rfl (hb hby d5_88) rfl k) ?_
      show own_Fin _ _ _ _ _ _ _ (T4.setTop (mkF m 89 #[.val (.ref r0), .val (.int p1), .val (.int (xg 2)), .val (.ref b1), .val (.int (1 : Int32)), .val (.int (3 : Int32)), .val (.int (3 : Int32)), .val (.int (xg 2))] [(.int ((f4 1) + (f4 0))), (.int (1 : Int32)), (.ref b1)]))
      obtain ⟨T11, h11, X11, e11, W11, A_b1_11, st11⟩ := own_stI X4 hx hZ e4 A_b1_4 (j := (1 : Int32)) ⟨by decide, by decide⟩ (g := (mkF m 89 #[.val (.ref r0), .val (.int p1), .val (.int (xg 2)), .val (.ref b1), .val (.int (1 : Int32)), .val (.int (3 : Int32)), .val (.int (3 : Int32)), .val (.int (xg 2))] [(.int ((f4 1) + (f4 0))), (.int (1 : Int32)), (.ref b1)])) rfl rfl (hb hby d5_89)
      have A_r0_11 := A_r0_4.other W11 ne_r0_b1
      have K11 := K4.wr W11 (Or.inr sz_b1)
      have N11 := Fr.snoc X11 N4 ge_b1
      have Z11 : n0 ≤ h11.size := Nat.le_trans Z4 (Keep.of_wr W11).1
      obtain ⟨f11, hf11⟩ : ∃ z, z = (own_set f4 (1 : Int32) ((f4 1) + (f4 0))) := ⟨_, rfl⟩
      rw [← hf11] at A_b1_11
      refine own_go (fun tg k => st11 tg k) ?_
      show own_Fin _ _ _ _ _ _ _ (T11.setTop (mkF m 90 #[.val (.ref r0), .val (.int p1), .val (.int (xg 2)), .val (.ref b1), .val (.int (1 : Int32)), .val (.int (3 : Int32)), .val (.int (3 : Int32)), .val (.int (xg 2))] []))
      refine own_go (fun _ k => XS.iinc X11.here hx rfl (hb hby d5_90) rfl (l' := #[.val (.ref r0), .val (.int p1), .val (.int (xg 2)), .val (.ref b1), .val (.int (2 : Int32)), .val (.int (3 : Int32)), .val (.int (3 : Int32)), .val (.int (xg 2))]) rfl k) ?_
      show own_Fin _ _ _ _ _ _ _ (T11.setTop (mkF m 93 #[.val (.ref r0), .val (.int p1), .val (.int (xg 2)), .val (.ref b1), .val (.int (2 : Int32)), .val (.int (3 : Int32)), .val (.int (3 : Int32)), .val (.int (xg 2))] []))
      refine own_go (fun _ k => XS.goto X11.here hx rfl (pc0 := 93) (pc' := 70) rfl (hb hby d5_93) (by decide) (by decide) k) ?_
      show own_Fin _ _ _ _ _ _ _ (T11.setTop (mkF m 70 #[.val (.ref r0), .val (.int p1), .val (.int (xg 2)), .val (.ref b1), .val (.int (2 : Int32)), .val (.int (3 : Int32)), .val (.int (3 : Int32)), .val (.int (xg 2))] []))
      refine own_go (fun _ k => XS.iload X11.here hx rfl (hb hby d5_70) rfl k) ?_
      refine own_go (fun _ k => XS.aloadN X11.here hx rfl (hb hby d5_72) rfl rfl k) ?_
      refine own_go (fun tg k => own_alen X11 hx hZ e11 A_b1_11 (g := (mkF m 73 #[.val (.ref r0), .val (.int p1), .val (.int (xg 2)), .val (.ref b1), .val (.int (2 : Int32)), .val (.int (3 : Int32)), .val (.int (3 : Int32)), .val (.int (xg 2))] [(.ref b1), (.int (2 : Int32))])) rfl rfl (hb hby d5_73) tg k) ?_
      show own_Fin _ _ _ _ _ _ _ (T11.setTop (mkF m 74 #[.val (.ref r0), .val (.int p1), .val (.int (xg 2)), .val (.ref b1), .val (.int (2 : Int32)), .val (.int (3 : Int32)), .val (.int (3 : Int32)), .val (.int (xg 2))] [(.int (4 : Int32)), (.int (2 : Int32))]))
      refine own_go (fun _ k => XS.icmpNo X11.here hx rfl (hb hby d5_74) rfl (tlt (by decide)).2.1 k) ?_
      show own_Fin _ _ _ _ _ _ _ (T11.setTop (mkF m 77 #[.val (.ref r0), .val (.int p1), .val (.int (xg 2)), .val (.ref b1), .val (.int (2 : Int32)), .val (.int (3 : Int32)), .val (.int (3 : Int32)), .val (.int (xg 2))] []))
      refine own_go (fun _ k => XS.aloadN X11.here hx rfl (hb hby d5_77) rfl rfl k) ?_
      refine own_go (fun _ k => XS.iload X11.here hx rfl (hb hby d5_78) rfl k) ?_
      show own_Fin _ _ _ _ _ _ _ (T11.setTop (mkF m 80 #[.val (.ref r0), .val (.int p1), .val (.int (xg 2)), .val (.ref b1), .val (.int (2 : Int32)), .val (.int (3 : Int32)), .val (.int (3 : Int32)), .val (.int (xg 2))] [(.int (2 : Int32)), (.ref b1)]))
      refine own_go (fun _ k => Jvm.Free.XT.dup2 X11.here hx rfl (hb hby d5_80) rfl rfl rfl k) ?_
      show own_Fin _ _ _ _ _ _ _ (T11.setTop (mkF m 81 #[.val (.ref r0), .val (.int p1), .val (.int (xg 2)), .val (.ref b1), .val (.int (2 : Int32)), .val (.int (3 : Int32)), .val (.int (3 : Int32)), .val (.int (xg 2))] [(.int (2 : Int32)), (.ref b1), (.int (2 : Int32)), (.ref b1)]))
      refine own_go (fun tg k => own_iaload X11 hx hZ e11 A_b1_11 (j := (2 : Int32)) ⟨by decide, by decide⟩ (x := (f11 2)) rfl (g := (mkF m 81 #[.val (.ref r0), .val (.int p1), .val (.int (xg 2)), .val (.ref b1), .val (.int (2 : Int32)), .val (.int (3 : Int32)), .val (.int (3 : Int32)), .val (.int (xg 2))] [(.int (2 : Int32)), (.ref b1), (.int (2 : Int32)), (.ref b1)])) rfl rfl (hb hby d5_81) tg k) ?_
      show own_Fin _ _ _ _ _ _ _ (T11.setTop (mkF m 82 #[.val (.ref r0), .val (.int p1), .val (.int (xg 2)), .val (.ref b1), .val (.int (2 : Int32)), .val (.int (3 : Int32)), .val (.int (3 : Int32)), .val (.int (xg 2))] [(.int (f11 2)), (.int (2 : Int32)), (.ref b1)]))
      refine own_go (fun _ k => XS.aloadN X11.here hx rfl (hb hby d5_82) rfl rfl k) ?_
      refine own_go (fun _ k => XS.iload X11.here hx rfl (hb hby d5_83) rfl k) ?_
      refine own_go (fun _ k => XS.iconst X11.here hx rfl (hb hby d5_85) k) ?_
      refine own_go (fun _ k => XS.isub X11.here hx rfl (hb hby d5_86) rfl k) ?_
      show own_Fin _ _ _ _ _ _ _ (T11.setTop (mkF m 87 #[.val (.ref r0), .val (.int p1), .val (.int (xg 2)), .val (.ref b1), .val (.int (2 : Int32)), .val (.int (3 : Int32)), .val (.int (3 : Int32)), .val (.int (xg 2))] [(.int (1 : Int32)), (.ref b1), (.int (f11 2)), (.int (2 : Int32)), (.ref b1)]))
      refine own_go (fun tg k => own_iaload X11 hx hZ e11 A_b1_11 (j := (1 : Int32)) ⟨by decide, by decide⟩ (x := (f11 1)) rfl (g := (mkF m 87 #[.val (.ref r0), .val (.int p1), .val (.int (xg 2)), .val (.ref b1), .val (.int (2 : Int32)), .val (.int (3 : Int32)), .val (.int (3 : Int32)), .val (.int (xg 2))] [(.int (1 : Int32)), (.ref b1), (.int (f11 2)), (.int (2 : Int32)), (.ref b1)])) rfl rfl (hb hby d5_87) tg k) ?_
      show own_Fin _ _ _ _ _ _ _ (T11.setTop (mkF m 88 #[.val (.ref r0), .val (.int p1), .val (.int (xg 2)), .val (.ref b1), .val (.int (2 : Int32)), .val (.int (3 : Int32)), .val (.int (3 : Int32)), .val (.int (xg 2))] [(.int (f11 1)), (.int (f11 2)), (.int (2 : Int32)), (.ref b1)]))
      refine own_go (fun _ k => XS.iadd X11.here hx rfl (hb hby d5_88) rfl k) ?_
      show own_Fin _ _ _ _ _ _ _ (T11.setTop (mkF m 89 #[.val (.ref r0), .val (.int p1), .val (.int (xg 2)), .val (.ref b1), .val (.int (2 : Int32)), .val (.int (3 : Int32)), .val (.int (3 : Int32)), .val (.int (xg 2))] [(.int ((f11 2) + (f11 1))), (.int (2 : Int32)), (.ref b1)]))
      obtain ⟨T12, h12, X12, e12, W12, A_b1_12, st12⟩ := own_stI X11 hx hZ e11 A_b1_11 (j := (2 : Int32)) ⟨by decide, by decide⟩ (g := (mkF m 89 #[.val (.ref r0), .val (.int p1), .val (.int (xg 2)), .val (.ref b1), .val (.int (2 : Int32)), .val (.int (3 : Int32)), .val (.int (3 : Int32)), .val (.int (xg 2))] [(.int ((f11 2) + (f11 1))), (.int (2 : Int32)), (.ref b1)])) rfl rfl (hb hby d5_89)
      have A_r0_12 := A_r0_11.other W12 ne_r0_b1
      have K12 := K11.wr W12 (Or.inr sz_b1)
      have N12 := Fr.snoc X12 N11 ge_b1
      have Z12 : n0 ≤ h12.size := Nat.le_trans Z11 (Keep.of_wr W12).1
      obtain ⟨f12, hf12⟩ : ∃ z, z = (own_set f11 (2 : Int32) ((f11 2) + (f11 1))) := ⟨_, rfl⟩
      rw [← hf12] at A_b1_12
      refine own_go (fun tg k => st12 tg k) ?_
      show own_Fin _ _ _ _ _ _ _ (T12.setTop (mkF m 90 #[.val (.ref r0), .val (.int p1), .val (.int (xg 2)), .val (.ref b1), .val (.int (2 : Int32)), .val (.int (3 : Int32)), .val (.int (3 : Int32)), .val (.int (xg 2))] []))
      refine own_go (fun _ k => XS.iinc X12.here hx rfl (hb hby d5_90) rfl (l' := #[.val (.ref r0), .val (.int p1), .val (.int (xg 2)), .val (.ref b1), .val (.int (3 : Int32)), .val (.int (3 : Int32)), .val (.int (3 : Int32)), .val (.int (xg 2))]) rfl k) ?_
      show own_Fin _ _ _ _ _ _ _ (T12.setTop (mkF m 93 #[.val (.ref r0), .val (.int p1), .val (.int (xg 2)), .val (.ref b1), .val (.int (3 : Int32)), .val (.int (3 : Int32)), .val (.int (3 : Int32)), .val (.int (xg 2))] []))
      refine own_go (fun _ k => XS.goto X12.here hx rfl (pc0 := 93) (pc' := 70) rfl (hb hby d5_93) (by decide) (by decide) k) ?_
      show own_Fin _ _ _ _ _ _ _ (T12.setTop (mkF m 70 #[.val (.ref r0), .val (.int p1), .val (.int (xg 2)), .val (.ref b1), .val (.int (3 : Int32)), .val (.int (3 : Int32)), .val (.int (3 : Int32)), .val (.int (xg 2))] []))
      refine own_go (fun _ k => XS.iload X12.here hx rfl (hb hby d5_70) rfl k) ?_
      refine own_go (fun _ k => XS.aloadN X12.here hx rfl (hb hby d5_72) rfl rfl k) ?_
      refine own_go (fun tg k => own_alen X12 hx hZ e12 A_b1_12 (g := (mkF m 73 #[.val (.ref r0), .val (.int p1), .val (.int (xg 2)), .val (.ref b1), .val (.int (3 : Int32)), .val (.int (3 : Int32)), .val (.int (3 : Int32)), .val (.int (xg 2))] [(.ref b1), (.int (3 : Int32))])) rfl rfl (hb hby d5_73) tg k) ?_
      show own_Fin _ _ _ _ _ _ _ (T12.setTop (mkF m 74 #[.val (.ref r0), .val (.int p1), .val (.int (xg 2)), .val (.ref b1), .val (.int (3 : Int32)), .val (.int (3 : Int32)), .val (.int (3 : Int32)), .val (.int (xg 2))] [(.int (4 : Int32)), (.int (3 : Int32))]))
      refine own_go (fun _ k => XS.icmpNo X12.here hx rfl (hb hby d5_74) rfl (tlt (by decide)).2.1 k) ?_
      show own_Fin _ _ _ _ _ _ _ (T12.setTop (mkF m 77 #[.val (.ref r0), .val (.int p1), .val (.int (xg 2)), .val (.ref b1), .val (.int (3 : Int32)), .val (.int (3 : Int32)), .val (.int (3 : Int32)), .val (.int (xg 2))] []))
      refine own_go (fun _ k => XS.aloadN X12.here hx rfl (hb hby d5_77) rfl rfl k) ?_
      refine own_go (fun _ k => XS.iload X12.here hx rfl (hb hby d5_78) rfl k) ?_
      show own_Fin _ _ _ _ _ _ _ (T12.setTop (mkF m 80 #[.val (.ref r0), .val (.int p1), .val (.int (xg 2)), .val (.ref b1), .val (.int (3 : Int32)), .val (.int (3 : Int32)), .val (.int (3 : Int32)), .val (.int (xg 2))] [(.int (3 : Int32)), (.ref b1)]))
      refine own_go (fun _ k => Jvm.Free.XT.dup2 X12.here hx rfl (hb hby d5_80) rfl rfl rfl k) ?_
      show own_Fin _ _ _ _ _ _ _ (T12.setTop (mkF m 81 #[.val (.ref r0), .val (.int p1), .val (.int (xg 2)), .val (.ref b1), .val (.int (3 : Int32)), .val (.int (3 : Int32)), .val (.int (3 : Int32)), .val (.int (xg 2))] [(.int (3 : Int32)), (.ref b1), (.int (3 : Int32)), (.ref b1)]))
      refine own_go (fun tg k => own_iaload X12 hx hZ e12 A_b1_12 (j := (3 : Int32)) ⟨by decide, by decide⟩ (x := (f12 3)) rfl (g := (mkF m 81 #[.val (.ref r0), .val (.int p1), .val (.int (xg 2)), .val (.ref b1), .val (.int (3 : Int32)), .val (.int (3 : Int32)), .val (.int (3 : Int32)), .val (.int (xg 2))] [(.int (3 : Int32)), (.ref b1), (.int (3 : Int32)), (.ref b1)])) rfl rfl (hb hby d5_81) tg k) ?_
      show own_Fin _ _ _ _ _ _ _ (T12.setTop (mkF m 82 #[.val (.ref r0), .val (.int p1), .val (.int (xg 2)), .val (.ref b1), .val (.int (3 : Int32)), .val (.int (3 : Int32)), .val (.int (3 : Int32)), .val (.int (xg 2))] [(.int (f12 3)), (.int (3 : Int32)), (.ref b1)]))
      refine own_go (fun _ k => XS.aloadN X12.here hx rfl (hb hby d5_82) rfl rfl k) ?_
      refine own_go (fun _ k => XS.iload X12.here hx rfl (hb hby d5_83) rfl k) ?_
      refine own_go (fun _ k => XS.iconst X12.here hx rfl (hb hby d5_85) k) ?_
      refine own_go (fun _ k => XS.isub X12.here hx rfl (hb hby d5_86) rfl k) ?_
      show own_Fin _ _ _ _ _ _ _ (T12.setTop (mkF m 87 #[.val (.ref r0), .val (.int p1), .val (.int (xg 2)), .val (.ref b1), .val (.int (3 : Int32)), .val (.int (3 : Int32)), .val (.int (3 : Int32)), .val (.int (xg 2))] [(.int (2 : Int32)), (.ref b1), (.int (f12 3)), (.int (3 : Int32)), (.ref b1)]))
      refine own_go (fun tg k => own_iaload X12 hx hZ e12 A_b1_12 (j := (2 : Int32)) ⟨by decide, by decide⟩ (x := (f12 2)) rfl (g := (mkF m 87 #[.val (.ref r0), .val (.int p1), .val (.int (xg 2)), .val (.ref b1), .val (.int (3 : Int32)), .val (.int (3 : Int32)), .val (.int (3 : Int32)), .val (.int (xg 2))] [(.int (2 : Int32)), (.ref b1), (.int (f12 3)), (.int (3 : Int32)), (.ref b1)])) rfl rfl (hb hby d5_87) tg k) ?_
      show own_Fin _ _ _ _ _ _ _ (T12.setTop (mkF m 88 #[.val (.ref r0), .val (.int p1), .val (.int (xg 2)), .val (.ref b1), .val (.int (3 : Int32)), .val (.int (3 : Int32)), .val (.int (3 : Int32)), .val (.int (xg 2))] [(.int (f12 2)), (.int (f12 3)), (.int (3 : Int32)), (.ref b1)]))
      refine own_go (fun _ k => XS.iadd X12.here hx rfl (hb hby d5_88) rfl k) ?_
      show own_Fin _ _ _ _ _ _ _ (T12.setTop (mkF m 89 #[.val (.ref r0), .val (.int p1), .val (.int (xg 2)), .val (.ref b1), .val (.int (3 : Int32)), .val (.int (3 : Int32)), .val (.int (3 : Int32)), .val (.int (xg 2))] [(.int ((f12 3) + (f12 2))), (.int (3 : Int32)), (.ref b1)]))
      obtain ⟨T13, h13, X13, e13, W13, A_b1_13, st13⟩ := own_stI X12 hx hZ e12 A_b1_12 (j := (3 : Int32)) ⟨by decide, by decide⟩ (g := (mkF m 89 #[.val (.ref r0), .val (.int p1), .val (.int (xg 2)), .val (.ref b1), .val (.int (3 : Int32)), .val (.int (3 : Int32)), .val (.int (3 : Int32)), .val (.int (xg 2))] [(.int ((f12 3) + (f12 2))), (.int (3 : Int32)), (.ref b1)])) rfl rfl (hb hby d5_89)
      have A_r0_13 := A_r0_12.other W13 ne_r0_b1
      have K13 := K12.wr W13 (Or.inr sz_b1)
      have N13 := Fr.snoc X13 N12 ge_b1
      have Z13 : n0 ≤ h13.size := Nat.le_trans Z12 (Keep.of_wr W13).1
      obtain ⟨f13, hf13⟩ : ∃ z, z = (own_set f12 (3 : Int32) ((f12 3) + (f12 2))) := ⟨_, rfl⟩
      rw [← hf13] at A_b1_13
      refine own_go (fun tg k => st13 tg k) ?_
      show own_Fin _ _ _ _ _ _ _ (T13.setTop (mkF m 90 #[.val (.ref r0), .val (.int p1), .val (.int (xg 2)), .val (.ref b1), .val (.int (3 : Int32)), .val (.int (3 : Int32)), .val (.int (3 : Int32)), .val (.int (xg 2))] []))
      refine own_go (fun _ k => XS.iinc X13.here hx rfl (hb hby d5_90) rfl (l' := #[.val (.ref r0), .val (.int p1), .val (.int (xg 2)), .val (.ref b1), .val (.int (4 : Int32)), .val (.int (3 : Int32)), .val (.int (3 : Int32)), .val (.int (xg 2))]) rfl k) ?_
      show own_Fin _ _ _ _ _ _ _ (T13.setTop (mkF m 93 #[.val (.ref r0), .val (.int p1), .val (.int (xg 2)), .val (.ref b1), .val (.int (4 : Int32)), .val (.int (3 : Int32)), .val (.int (3 : Int32)), .val (.int (xg 2))] []))
      refine own_go (fun _ k => XS.goto X13.here hx rfl (pc0 := 93) (pc' := 70) rfl (hb hby d5_93) (by decide) (by decide) k) ?_
      show own_Fin _ _ _ _ _ _ _ (T13.setTop (mkF m 70 #[.val (.ref r0), .val (.int p1), .val (.int (xg 2)), .val (.ref b1), .val (.int (4 : Int32)), .val (.int (3 : Int32)), .val (.int (3 : Int32)), .val (.int (xg 2))] []))
      refine own_go (fun _ k => XS.iload X13.here hx rfl (hb hby d5_70) rfl k) ?_
      refine own_go (fun _ k => XS.aloadN X13.here hx rfl (hb hby d5_72) rfl rfl k) ?_
      refine own_go (fun tg k => own_alen X13 hx hZ e13 A_b1_13 (g := (mkF m 73 #[.val (.ref r0), .val (.int p1), .val (.int (xg 2)), .val (.ref b1), .val (.int (4 : Int32)), .val (.int (3 : Int32)), .val (.int (3 : Int32)), .val (.int (xg 2))] [(.ref b1), (.int (4 : Int32))])) rfl rfl (hb hby d5_73) tg k) ?_
      show own_Fin _ _ _ _ _ _ _ (T13.setTop (mkF m 74 #[.val (.ref r0), .val (.int p1), .val (.int (xg 2)), .val (.ref b1), .val (.int (4 : Int32)), .val (.int (3 : Int32)), .val (.int (3 : Int32)), .val (.int (xg 2))] [(.int (4 : Int32)), (.int (4 : Int32))]))
      refine own_go (fun _ k => XS.icmpYes X13.here hx rfl (pc0 := 74) (pc' := 96) rfl (hb hby d5_74) rfl (flt (by decide)).2.1 (by decide) (by decide) k) ?_
      show own_Fin _ _ _ _ _ _ _ (T13.setTop (mkF m 96 #[.val (.ref r0), .val (.int p1), .val (.int (xg 2)), .val (.ref b1), .val (.int (4 : Int32)), .val (.int (3 : Int32)), .val (.int (3 : Int32)), .val (.int (xg 2))] []))
      refine own_go (fun _ k => XS.aloadN X13.here hx rfl (hb hby d5_96) rfl rfl k) ?_
      show own_Fin _ _ _ _ _ _ _ (T13.setTop (mkF m 97 #[.val (.ref r0), .val (.int p1), .val (.int (xg 2)), .val (.ref b1), .val (.int (4 : Int32)), .val (.int (3 : Int32)), .val (.int (3 : Int32)), .val (.int (xg 2))] [(.ref b1)]))
      refine own_ret X13 hx hlk Bd.returns rfl (Or.inr (Or.inr (Or.inr (Or.inr ⟨rfl, rfl, rfl⟩)))) (hb hby d5_97) (Nat.le_of_ble_eq_true rfl) (Nat.le_of_ble_eq_true rfl) ?_
      rw [e13]
      refine ⟨b1, f13, ?_, N13, K13, sz_b1, ?_, ?_⟩
      · first | (simp only [if_neg hs5, if_neg hs7]; done) | (simp only [if_neg hs5, if_neg hs7]; rfl) | rfl
      · (first | exact A_b1_13 | (rw [hs10]; exact A_b1_13))
      · first | (exact own_bspec4 hp hs10 hf2 hf3 hf4 hf11 hf12 hf13) | (simp only [if_neg hs5, if_neg hs7]; exact own_bspec4 hp hs10 hf2 hf3 hf4 hf11 hf12 hf13)
def own_srt (g : Nat → Int32) : Prop := 0 ≤ (g 0).toInt ∧ (g 0).toInt ≤ (g 1).toInt ∧ (g 1).toInt ≤ (g 2).toInt ∧ (g 2).toInt < 48
theorem own_srt1 {g : Nat → Int32} (h : own_srt g) : 0 ≤ (g 2).toInt ∧ (g 2).toInt < 48 := by unfold own_srt at h; omega
theorem own_okBk {g : Nat → Int32} (h : own_srt g) (k : Int32) (n : Nat) (D : Int) (hk : k.toBitVec.toNat % 32 = n) (hD : ((2 ^ n : Nat) : Int) = D) (h0 : 0 < D) (hc : (g 2).toInt / D ≤ 2) : own_okB g k := by
  obtain ⟨a1, a2, a3, a4⟩ := h
  refine ⟨((g 0).toInt / D).toNat, ((g 1).toInt / D).toNat, ((g 2).toInt / D).toNat, ?_, ?_, ?_, ?_, ?_, ?_⟩
  · rw [own_shr _ k n hk a1, hD]; have := Int.ediv_nonneg a1 (Int.le_of_lt h0); omega
  · rw [own_shr _ k n hk (by omega), hD]; have := Int.ediv_nonneg (show 0 ≤ (g 1).toInt by omega) (Int.le_of_lt h0); omega
  · rw [own_shr _ k n hk (by omega), hD]; have := Int.ediv_nonneg (show 0 ≤ (g 2).toInt by omega) (Int.le_of_lt h0); omega
  · have := Int.ediv_le_ediv h0 a2; omega
  · have := Int.ediv_le_ediv h0 a3; omega
  · omega
theorem own_srt2 {g : Nat → Int32} (h : own_srt g) : own_okB g (own_f3 g) := by
  have h2 := own_srt1 h
  have M : (3 : Int32).toInt = 3 := by decide
  have s0 := own_shr (g 2) 0 0 (by decide) h2.1
  have s1 := own_shr (g 2) 1 1 (by decide) h2.1
  have s2 := own_shr (g 2) 2 2 (by decide) h2.1
  have s3 := own_shr (g 2) 3 3 (by decide) h2.1
  simp only [own_f3, own_mx, Int32.lt_iff_toInt_lt, s0, s1, s2, s3, M]
  repeat' split
  · exact own_okBk h 0 0 1 (by decide) (by decide) (by decide) (by rename_i q; rw [show ((2 ^ 0 : Nat) : Int) = 1 from by decide] at q; omega)
  · exact own_okBk h 1 1 2 (by decide) (by decide) (by decide) (by rename_i q; rw [show ((2 ^ 1 : Nat) : Int) = 2 from by decide] at q; omega)
  · exact own_okBk h 2 2 4 (by decide) (by decide) (by decide) (by rename_i q; rw [show ((2 ^ 2 : Nat) : Int) = 4 from by decide] at q; omega)
  · exact own_okBk h 3 3 8 (by decide) (by decide) (by decide) (by rename_i q; rw [show ((2 ^ 3 : Nat) : Int) = 8 from by decide] at q; omega)
  · exact own_okBk h 4 4 16 (by decide) (by decide) (by decide) (by omega)

theorem own_sn103 {Z : State} {a0 : Array Value} (hw : ∀ d ∈ tables_1, d.before a0 Z = true) : Jvm.RoadKit.slotOf Z "com/example/reachability/reachability/CandidateList" "runs" "[I" ≠ Jvm.RoadKit.slotOf Z "com/example/reachability/reachability/CandidateList" "search" "I" := slot_ne (Or.inl (hw _ (List.mem_of_getElem? (i := 13) rfl))) (Or.inl (hw _ (List.mem_of_getElem? (i := 11) rfl))) (by decide) (t := (.array .int)) (t' := .int) (by decide) (by decide)
theorem own_sn104 {Z : State} {a0 : Array Value} (hw : ∀ d ∈ tables_1, d.before a0 Z = true) : Jvm.RoadKit.slotOf Z "com/example/reachability/reachability/CandidateList" "numbers" "[I" ≠ Jvm.RoadKit.slotOf Z "com/example/reachability/reachability/CandidateList" "search" "I" := slot_ne (Or.inr (hw _ (List.mem_of_getElem? (i := 15) rfl))) (Or.inl (hw _ (List.mem_of_getElem? (i := 11) rfl))) (by decide) (t := (.array .int)) (t' := .int) (by decide) (by decide)
theorem own_sn105 {Z : State} {a0 : Array Value} (hw : ∀ d ∈ tables_1, d.before a0 Z = true) : Jvm.RoadKit.slotOf Z "com/example/reachability/reachability/CandidateList" "elements" "[I" ≠ Jvm.RoadKit.slotOf Z "com/example/reachability/reachability/CandidateList" "search" "I" := slot_ne (Or.inr (hw _ (List.mem_of_getElem? (i := 17) rfl))) (Or.inl (hw _ (List.mem_of_getElem? (i := 11) rfl))) (by decide) (t := (.array .int)) (t' := .int) (by decide) (by decide)
theorem own_sn106 {Z : State} {a0 : Array Value} (hw : ∀ d ∈ tables_1, d.before a0 Z = true) : Jvm.RoadKit.slotOf Z "com/example/reachability/reachability/CandidateList" "foundIn" "[I" ≠ Jvm.RoadKit.slotOf Z "com/example/reachability/reachability/CandidateList" "search" "I" := slot_ne (Or.inr (hw _ (List.mem_of_getElem? (i := 19) rfl))) (Or.inl (hw _ (List.mem_of_getElem? (i := 11) rfl))) (by decide) (t := (.array .int)) (t' := .int) (by decide) (by decide)
theorem own_sn107 {Z : State} {a0 : Array Value} (hw : ∀ d ∈ tables_1, d.before a0 Z = true) : Jvm.RoadKit.slotOf Z "com/example/reachability/reachability/CandidateList" "next" "[I" ≠ Jvm.RoadKit.slotOf Z "com/example/reachability/reachability/CandidateList" "search" "I" := slot_ne (Or.inr (hw _ (List.mem_of_getElem? (i := 21) rfl))) (Or.inl (hw _ (List.mem_of_getElem? (i := 11) rfl))) (by decide) (t := (.array .int)) (t' := .int) (by decide) (by decide)
theorem own_sn108 {Z : State} {a0 : Array Value} (hw : ∀ d ∈ tables_1, d.before a0 Z = true) : Jvm.RoadKit.slotOf Z "com/example/reachability/reachability/CandidateList" "found" "[I" ≠ Jvm.RoadKit.slotOf Z "com/example/reachability/reachability/CandidateList" "search" "I" := slot_ne (Or.inr (hw _ (List.mem_of_getElem? (i := 23) rfl))) (Or.inl (hw _ (List.mem_of_getElem? (i := 11) rfl))) (by decide) (t := (.array .int)) (t' := .int) (by decide) (by decide)
theorem own_sn109 {Z : State} {a0 : Array Value} (hw : ∀ d ∈ tables_1, d.before a0 Z = true) : Jvm.RoadKit.slotOf Z "com/example/reachability/reachability/CandidateList" "bucketShift" "I" ≠ Jvm.RoadKit.slotOf Z "com/example/reachability/reachability/CandidateList" "search" "I" := slot_ne (Or.inr (hw _ (List.mem_of_getElem? (i := 32) rfl))) (Or.inl (hw _ (List.mem_of_getElem? (i := 11) rfl))) (by decide) (t := .int) (t' := .int) (by decide) (by decide)
theorem own_sn110 {Z : State} {a0 : Array Value} (hw : ∀ d ∈ tables_1, d.before a0 Z = true) : Jvm.RoadKit.slotOf Z "com/example/reachability/reachability/CandidateList" "bucketStart" "[I" ≠ Jvm.RoadKit.slotOf Z "com/example/reachability/reachability/CandidateList" "search" "I" := slot_ne (Or.inr (hw _ (List.mem_of_getElem? (i := 37) rfl))) (Or.inl (hw _ (List.mem_of_getElem? (i := 11) rfl))) (by decide) (t := (.array .int)) (t' := .int) (by decide) (by decide)
theorem own_sn111 {Z : State} {a0 : Array Value} (hw : ∀ d ∈ tables_1, d.before a0 Z = true) : Jvm.RoadKit.slotOf Z "com/example/reachability/reachability/CandidateList" "foundCount" "I" ≠ Jvm.RoadKit.slotOf Z "com/example/reachability/reachability/CandidateList" "search" "I" := slot_ne (Or.inl (hw _ (List.mem_of_getElem? (i := 45) rfl))) (Or.inl (hw _ (List.mem_of_getElem? (i := 11) rfl))) (by decide) (t := .int) (t' := .int) (by decide) (by decide)
theorem own_sn112 {Z : State} {a0 : Array Value} (hw : ∀ d ∈ tables_1, d.before a0 Z = true) : Jvm.RoadKit.slotOf Z "com/example/reachability/reachability/CandidateList" "firstOnly" "Z" ≠ Jvm.RoadKit.slotOf Z "com/example/reachability/reachability/CandidateList" "search" "I" := slot_ne (Or.inl (hw _ (List.mem_of_getElem? (i := 47) rfl))) (Or.inl (hw _ (List.mem_of_getElem? (i := 11) rfl))) (by decide) (t := .boolean) (t' := .int) (by decide) (by decide)
theorem own_sn113 {Z : State} {a0 : Array Value} (hw : ∀ d ∈ tables_1, d.before a0 Z = true) : Jvm.RoadKit.slotOf Z "com/example/reachability/reachability/CandidateList" "forRuns" "Z" ≠ Jvm.RoadKit.slotOf Z "com/example/reachability/reachability/CandidateList" "search" "I" := slot_ne (Or.inl (hw _ (List.mem_of_getElem? (i := 49) rfl))) (Or.inl (hw _ (List.mem_of_getElem? (i := 11) rfl))) (by decide) (t := .boolean) (t' := .int) (by decide) (by decide)
theorem own_sn114 {Z : State} {a0 : Array Value} (hw : ∀ d ∈ tables_1, d.before a0 Z = true) : Jvm.RoadKit.slotOf Z "com/example/reachability/reachability/CandidateList" "runsLength" "I" ≠ Jvm.RoadKit.slotOf Z "com/example/reachability/reachability/CandidateList" "search" "I" := slot_ne (Or.inl (hw _ (List.mem_of_getElem? (i := 51) rfl))) (Or.inl (hw _ (List.mem_of_getElem? (i := 11) rfl))) (by decide) (t := .int) (t' := .int) (by decide) (by decide)
theorem own_sn115 {Z : State} {a0 : Array Value} (hw : ∀ d ∈ tables_1, d.before a0 Z = true) : Jvm.RoadKit.slotOf Z "com/example/reachability/reachability/CandidateList" "search" "I" ≠ Jvm.RoadKit.slotOf Z "com/example/reachability/reachability/CandidateList" "runs" "[I" := slot_ne (Or.inl (hw _ (List.mem_of_getElem? (i := 11) rfl))) (Or.inl (hw _ (List.mem_of_getElem? (i := 13) rfl))) (by decide) (t := .int) (t' := (.array .int)) (by decide) (by decide)
theorem own_sn116 {Z : State} {a0 : Array Value} (hw : ∀ d ∈ tables_1, d.before a0 Z = true) : Jvm.RoadKit.slotOf Z "com/example/reachability/reachability/CandidateList" "numbers" "[I" ≠ Jvm.RoadKit.slotOf Z "com/example/reachability/reachability/CandidateList" "runs" "[I" := slot_ne (Or.inr (hw _ (List.mem_of_getElem? (i := 15) rfl))) (Or.inl (hw _ (List.mem_of_getElem? (i := 13) rfl))) (by decide) (t := (.array .int)) (t' := (.array .int)) (by decide) (by decide)
theorem own_sn117 {Z : State} {a0 : Array Value} (hw : ∀ d ∈ tables_1, d.before a0 Z = true) : Jvm.RoadKit.slotOf Z "com/example/reachability/reachability/CandidateList" "elements" "[I" ≠ Jvm.RoadKit.slotOf Z "com/example/reachability/reachability/CandidateList" "runs" "[I" := slot_ne (Or.inr (hw _ (List.mem_of_getElem? (i := 17) rfl))) (Or.inl (hw _ (List.mem_of_getElem? (i := 13) rfl))) (by decide) (t := (.array .int)) (t' := (.array .int)) (by decide) (by decide)
theorem own_sn118 {Z : State} {a0 : Array Value} (hw : ∀ d ∈ tables_1, d.before a0 Z = true) : Jvm.RoadKit.slotOf Z "com/example/reachability/reachability/CandidateList" "foundIn" "[I" ≠ Jvm.RoadKit.slotOf Z "com/example/reachability/reachability/CandidateList" "runs" "[I" := slot_ne (Or.inr (hw _ (List.mem_of_getElem? (i := 19) rfl))) (Or.inl (hw _ (List.mem_of_getElem? (i := 13) rfl))) (by decide) (t := (.array .int)) (t' := (.array .int)) (by decide) (by decide)
theorem own_sn119 {Z : State} {a0 : Array Value} (hw : ∀ d ∈ tables_1, d.before a0 Z = true) : Jvm.RoadKit.slotOf Z "com/example/reachability/reachability/CandidateList" "next" "[I" ≠ Jvm.RoadKit.slotOf Z "com/example/reachability/reachability/CandidateList" "runs" "[I" := slot_ne (Or.inr (hw _ (List.mem_of_getElem? (i := 21) rfl))) (Or.inl (hw _ (List.mem_of_getElem? (i := 13) rfl))) (by decide) (t := (.array .int)) (t' := (.array .int)) (by decide) (by decide)
theorem own_sn120 {Z : State} {a0 : Array Value} (hw : ∀ d ∈ tables_1, d.before a0 Z = true) : Jvm.RoadKit.slotOf Z "com/example/reachability/reachability/CandidateList" "found" "[I" ≠ Jvm.RoadKit.slotOf Z "com/example/reachability/reachability/CandidateList" "runs" "[I" := slot_ne (Or.inr (hw _ (List.mem_of_getElem? (i := 23) rfl))) (Or.inl (hw _ (List.mem_of_getElem? (i := 13) rfl))) (by decide) (t := (.array .int)) (t' := (.array .int)) (by decide) (by decide)
theorem own_sn121 {Z : State} {a0 : Array Value} (hw : ∀ d ∈ tables_1, d.before a0 Z = true) : Jvm.RoadKit.slotOf Z "com/example/reachability/reachability/CandidateList" "bucketShift" "I" ≠ Jvm.RoadKit.slotOf Z "com/example/reachability/reachability/CandidateList" "runs" "[I" := slot_ne (Or.inr (hw _ (List.mem_of_getElem? (i := 32) rfl))) (Or.inl (hw _ (List.mem_of_getElem? (i := 13) rfl))) (by decide) (t := .int) (t' := (.array .int)) (by decide) (by decide)
theorem own_sn122 {Z : State} {a0 : Array Value} (hw : ∀ d ∈ tables_1, d.before a0 Z = true) : Jvm.RoadKit.slotOf Z "com/example/reachability/reachability/CandidateList" "bucketStart" "[I" ≠ Jvm.RoadKit.slotOf Z "com/example/reachability/reachability/CandidateList" "runs" "[I" := slot_ne (Or.inr (hw _ (List.mem_of_getElem? (i := 37) rfl))) (Or.inl (hw _ (List.mem_of_getElem? (i := 13) rfl))) (by decide) (t := (.array .int)) (t' := (.array .int)) (by decide) (by decide)
theorem own_sn123 {Z : State} {a0 : Array Value} (hw : ∀ d ∈ tables_1, d.before a0 Z = true) : Jvm.RoadKit.slotOf Z "com/example/reachability/reachability/CandidateList" "foundCount" "I" ≠ Jvm.RoadKit.slotOf Z "com/example/reachability/reachability/CandidateList" "runs" "[I" := slot_ne (Or.inl (hw _ (List.mem_of_getElem? (i := 45) rfl))) (Or.inl (hw _ (List.mem_of_getElem? (i := 13) rfl))) (by decide) (t := .int) (t' := (.array .int)) (by decide) (by decide)
theorem own_sn124 {Z : State} {a0 : Array Value} (hw : ∀ d ∈ tables_1, d.before a0 Z = true) : Jvm.RoadKit.slotOf Z "com/example/reachability/reachability/CandidateList" "firstOnly" "Z" ≠ Jvm.RoadKit.slotOf Z "com/example/reachability/reachability/CandidateList" "runs" "[I" := slot_ne (Or.inl (hw _ (List.mem_of_getElem? (i := 47) rfl))) (Or.inl (hw _ (List.mem_of_getElem? (i := 13) rfl))) (by decide) (t := .boolean) (t' := (.array .int)) (by decide) (by decide)
theorem own_sn125 {Z : State} {a0 : Array Value} (hw : ∀ d ∈ tables_1, d.before a0 Z = true) : Jvm.RoadKit.slotOf Z "com/example/reachability/reachability/CandidateList" "forRuns" "Z" ≠ Jvm.RoadKit.slotOf Z "com/example/reachability/reachability/CandidateList" "runs" "[I" := slot_ne (Or.inl (hw _ (List.mem_of_getElem? (i := 49) rfl))) (Or.inl (hw _ (List.mem_of_getElem? (i := 13) rfl))) (by decide) (t := .boolean) (t' := (.array .int)) (by decide) (by decide)
theorem own_sn126 {Z : State} {a0 : Array Value} (hw : ∀ d ∈ tables_1, d.before a0 Z = true) : Jvm.RoadKit.slotOf Z "com/example/reachability/reachability/CandidateList" "runsLength" "I" ≠ Jvm.RoadKit.slotOf Z "com/example/reachability/reachability/CandidateList" "runs" "[I" := slot_ne (Or.inl (hw _ (List.mem_of_getElem? (i := 51) rfl))) (Or.inl (hw _ (List.mem_of_getElem? (i := 13) rfl))) (by decide) (t := .int) (t' := (.array .int)) (by decide) (by decide)
theorem own_sn127 {Z : State} {a0 : Array Value} (hw : ∀ d ∈ tables_1, d.before a0 Z = true) : Jvm.RoadKit.slotOf Z "com/example/reachability/reachability/CandidateList" "search" "I" ≠ Jvm.RoadKit.slotOf Z "com/example/reachability/reachability/CandidateList" "numbers" "[I" := slot_ne (Or.inl (hw _ (List.mem_of_getElem? (i := 11) rfl))) (Or.inr (hw _ (List.mem_of_getElem? (i := 15) rfl))) (by decide) (t := .int) (t' := (.array .int)) (by decide) (by decide)
theorem own_sn128 {Z : State} {a0 : Array Value} (hw : ∀ d ∈ tables_1, d.before a0 Z = true) : Jvm.RoadKit.slotOf Z "com/example/reachability/reachability/CandidateList" "runs" "[I" ≠ Jvm.RoadKit.slotOf Z "com/example/reachability/reachability/CandidateList" "numbers" "[I" := slot_ne (Or.inl (hw _ (List.mem_of_getElem? (i := 13) rfl))) (Or.inr (hw _ (List.mem_of_getElem? (i := 15) rfl))) (by decide) (t := (.array .int)) (t' := (.array .int)) (by decide) (by decide)
theorem own_sn129 {Z : State} {a0 : Array Value} (hw : ∀ d ∈ tables_1, d.before a0 Z = true) : Jvm.RoadKit.slotOf Z "com/example/reachability/reachability/CandidateList" "elements" "[I" ≠ Jvm.RoadKit.slotOf Z "com/example/reachability/reachability/CandidateList" "numbers" "[I" := slot_ne (Or.inr (hw _ (List.mem_of_getElem? (i := 17) rfl))) (Or.inr (hw _ (List.mem_of_getElem? (i := 15) rfl))) (by decide) (t := (.array .int)) (t' := (.array .int)) (by decide) (by decide)
theorem own_sn130 {Z : State} {a0 : Array Value} (hw : ∀ d ∈ tables_1, d.before a0 Z = true) : Jvm.RoadKit.slotOf Z "com/example/reachability/reachability/CandidateList" "foundIn" "[I" ≠ Jvm.RoadKit.slotOf Z "com/example/reachability/reachability/CandidateList" "numbers" "[I" := slot_ne (Or.inr (hw _ (List.mem_of_getElem? (i := 19) rfl))) (Or.inr (hw _ (List.mem_of_getElem? (i := 15) rfl))) (by decide) (t := (.array .int)) (t' := (.array .int)) (by decide) (by decide)
theorem own_sn131 {Z : State} {a0 : Array Value} (hw : ∀ d ∈ tables_1, d.before a0 Z = true) : Jvm.RoadKit.slotOf Z "com/example/reachability/reachability/CandidateList" "next" "[I" ≠ Jvm.RoadKit.slotOf Z "com/example/reachability/reachability/CandidateList" "numbers" "[I" := slot_ne (Or.inr (hw _ (List.mem_of_getElem? (i := 21) rfl))) (Or.inr (hw _ (List.mem_of_getElem? (i := 15) rfl))) (by decide) (t := (.array .int)) (t' := (.array .int)) (by decide) (by decide)
theorem own_sn132 {Z : State} {a0 : Array Value} (hw : ∀ d ∈ tables_1, d.before a0 Z = true) : Jvm.RoadKit.slotOf Z "com/example/reachability/reachability/CandidateList" "found" "[I" ≠ Jvm.RoadKit.slotOf Z "com/example/reachability/reachability/CandidateList" "numbers" "[I" := slot_ne (Or.inr (hw _ (List.mem_of_getElem? (i := 23) rfl))) (Or.inr (hw _ (List.mem_of_getElem? (i := 15) rfl))) (by decide) (t := (.array .int)) (t' := (.array .int)) (by decide) (by decide)
theorem own_sn133 {Z : State} {a0 : Array Value} (hw : ∀ d ∈ tables_1, d.before a0 Z = true) : Jvm.RoadKit.slotOf Z "com/example/reachability/reachability/CandidateList" "bucketShift" "I" ≠ Jvm.RoadKit.slotOf Z "com/example/reachability/reachability/CandidateList" "numbers" "[I" := slot_ne (Or.inr (hw _ (List.mem_of_getElem? (i := 32) rfl))) (Or.inr (hw _ (List.mem_of_getElem? (i := 15) rfl))) (by decide) (t := .int) (t' := (.array .int)) (by decide) (by decide)
theorem own_sn134 {Z : State} {a0 : Array Value} (hw : ∀ d ∈ tables_1, d.before a0 Z = true) : Jvm.RoadKit.slotOf Z "com/example/reachability/reachability/CandidateList" "bucketStart" "[I" ≠ Jvm.RoadKit.slotOf Z "com/example/reachability/reachability/CandidateList" "numbers" "[I" := slot_ne (Or.inr (hw _ (List.mem_of_getElem? (i := 37) rfl))) (Or.inr (hw _ (List.mem_of_getElem? (i := 15) rfl))) (by decide) (t := (.array .int)) (t' := (.array .int)) (by decide) (by decide)
theorem own_sn135 {Z : State} {a0 : Array Value} (hw : ∀ d ∈ tables_1, d.before a0 Z = true) : Jvm.RoadKit.slotOf Z "com/example/reachability/reachability/CandidateList" "foundCount" "I" ≠ Jvm.RoadKit.slotOf Z "com/example/reachability/reachability/CandidateList" "numbers" "[I" := slot_ne (Or.inl (hw _ (List.mem_of_getElem? (i := 45) rfl))) (Or.inr (hw _ (List.mem_of_getElem? (i := 15) rfl))) (by decide) (t := .int) (t' := (.array .int)) (by decide) (by decide)
theorem own_sn136 {Z : State} {a0 : Array Value} (hw : ∀ d ∈ tables_1, d.before a0 Z = true) : Jvm.RoadKit.slotOf Z "com/example/reachability/reachability/CandidateList" "firstOnly" "Z" ≠ Jvm.RoadKit.slotOf Z "com/example/reachability/reachability/CandidateList" "numbers" "[I" := slot_ne (Or.inl (hw _ (List.mem_of_getElem? (i := 47) rfl))) (Or.inr (hw _ (List.mem_of_getElem? (i := 15) rfl))) (by decide) (t := .boolean) (t' := (.array .int)) (by decide) (by decide)
theorem own_sn137 {Z : State} {a0 : Array Value} (hw : ∀ d ∈ tables_1, d.before a0 Z = true) : Jvm.RoadKit.slotOf Z "com/example/reachability/reachability/CandidateList" "forRuns" "Z" ≠ Jvm.RoadKit.slotOf Z "com/example/reachability/reachability/CandidateList" "numbers" "[I" := slot_ne (Or.inl (hw _ (List.mem_of_getElem? (i := 49) rfl))) (Or.inr (hw _ (List.mem_of_getElem? (i := 15) rfl))) (by decide) (t := .boolean) (t' := (.array .int)) (by decide) (by decide)
theorem own_sn138 {Z : State} {a0 : Array Value} (hw : ∀ d ∈ tables_1, d.before a0 Z = true) : Jvm.RoadKit.slotOf Z "com/example/reachability/reachability/CandidateList" "runsLength" "I" ≠ Jvm.RoadKit.slotOf Z "com/example/reachability/reachability/CandidateList" "numbers" "[I" := slot_ne (Or.inl (hw _ (List.mem_of_getElem? (i := 51) rfl))) (Or.inr (hw _ (List.mem_of_getElem? (i := 15) rfl))) (by decide) (t := .int) (t' := (.array .int)) (by decide) (by decide)
theorem own_sn139 {Z : State} {a0 : Array Value} (hw : ∀ d ∈ tables_1, d.before a0 Z = true) : Jvm.RoadKit.slotOf Z "com/example/reachability/reachability/CandidateList" "search" "I" ≠ Jvm.RoadKit.slotOf Z "com/example/reachability/reachability/CandidateList" "elements" "[I" := slot_ne (Or.inl (hw _ (List.mem_of_getElem? (i := 11) rfl))) (Or.inr (hw _ (List.mem_of_getElem? (i := 17) rfl))) (by decide) (t := .int) (t' := (.array .int)) (by decide) (by decide)
theorem own_sn140 {Z : State} {a0 : Array Value} (hw : ∀ d ∈ tables_1, d.before a0 Z = true) : Jvm.RoadKit.slotOf Z "com/example/reachability/reachability/CandidateList" "runs" "[I" ≠ Jvm.RoadKit.slotOf Z "com/example/reachability/reachability/CandidateList" "elements" "[I" := slot_ne (Or.inl (hw _ (List.mem_of_getElem? (i := 13) rfl))) (Or.inr (hw _ (List.mem_of_getElem? (i := 17) rfl))) (by decide) (t := (.array .int)) (t' := (.array .int)) (by decide) (by decide)
theorem own_sn141 {Z : State} {a0 : Array Value} (hw : ∀ d ∈ tables_1, d.before a0 Z = true) : Jvm.RoadKit.slotOf Z "com/example/reachability/reachability/CandidateList" "numbers" "[I" ≠ Jvm.RoadKit.slotOf Z "com/example/reachability/reachability/CandidateList" "elements" "[I" := slot_ne (Or.inr (hw _ (List.mem_of_getElem? (i := 15) rfl))) (Or.inr (hw _ (List.mem_of_getElem? (i := 17) rfl))) (by decide) (t := (.array .int)) (t' := (.array .int)) (by decide) (by decide)
theorem own_sn142 {Z : State} {a0 : Array Value} (hw : ∀ d ∈ tables_1, d.before a0 Z = true) : Jvm.RoadKit.slotOf Z "com/example/reachability/reachability/CandidateList" "foundIn" "[I" ≠ Jvm.RoadKit.slotOf Z "com/example/reachability/reachability/CandidateList" "elements" "[I" := slot_ne (Or.inr (hw _ (List.mem_of_getElem? (i := 19) rfl))) (Or.inr (hw _ (List.mem_of_getElem? (i := 17) rfl))) (by decide) (t := (.array .int)) (t' := (.array .int)) (by decide) (by decide)
theorem own_sn143 {Z : State} {a0 : Array Value} (hw : ∀ d ∈ tables_1, d.before a0 Z = true) : Jvm.RoadKit.slotOf Z "com/example/reachability/reachability/CandidateList" "next" "[I" ≠ Jvm.RoadKit.slotOf Z "com/example/reachability/reachability/CandidateList" "elements" "[I" := slot_ne (Or.inr (hw _ (List.mem_of_getElem? (i := 21) rfl))) (Or.inr (hw _ (List.mem_of_getElem? (i := 17) rfl))) (by decide) (t := (.array .int)) (t' := (.array .int)) (by decide) (by decide)
theorem own_sn144 {Z : State} {a0 : Array Value} (hw : ∀ d ∈ tables_1, d.before a0 Z = true) : Jvm.RoadKit.slotOf Z "com/example/reachability/reachability/CandidateList" "found" "[I" ≠ Jvm.RoadKit.slotOf Z "com/example/reachability/reachability/CandidateList" "elements" "[I" := slot_ne (Or.inr (hw _ (List.mem_of_getElem? (i := 23) rfl))) (Or.inr (hw _ (List.mem_of_getElem? (i := 17) rfl))) (by decide) (t := (.array .int)) (t' := (.array .int)) (by decide) (by decide)
theorem own_sn145 {Z : State} {a0 : Array Value} (hw : ∀ d ∈ tables_1, d.before a0 Z = true) : Jvm.RoadKit.slotOf Z "com/example/reachability/reachability/CandidateList" "bucketShift" "I" ≠ Jvm.RoadKit.slotOf Z "com/example/reachability/reachability/CandidateList" "elements" "[I" := slot_ne (Or.inr (hw _ (List.mem_of_getElem? (i := 32) rfl))) (Or.inr (hw _ (List.mem_of_getElem? (i := 17) rfl))) (by decide) (t := .int) (t' := (.array .int)) (by decide) (by decide)
theorem own_sn146 {Z : State} {a0 : Array Value} (hw : ∀ d ∈ tables_1, d.before a0 Z = true) : Jvm.RoadKit.slotOf Z "com/example/reachability/reachability/CandidateList" "bucketStart" "[I" ≠ Jvm.RoadKit.slotOf Z "com/example/reachability/reachability/CandidateList" "elements" "[I" := slot_ne (Or.inr (hw _ (List.mem_of_getElem? (i := 37) rfl))) (Or.inr (hw _ (List.mem_of_getElem? (i := 17) rfl))) (by decide) (t := (.array .int)) (t' := (.array .int)) (by decide) (by decide)
theorem own_sn147 {Z : State} {a0 : Array Value} (hw : ∀ d ∈ tables_1, d.before a0 Z = true) : Jvm.RoadKit.slotOf Z "com/example/reachability/reachability/CandidateList" "foundCount" "I" ≠ Jvm.RoadKit.slotOf Z "com/example/reachability/reachability/CandidateList" "elements" "[I" := slot_ne (Or.inl (hw _ (List.mem_of_getElem? (i := 45) rfl))) (Or.inr (hw _ (List.mem_of_getElem? (i := 17) rfl))) (by decide) (t := .int) (t' := (.array .int)) (by decide) (by decide)
theorem own_sn148 {Z : State} {a0 : Array Value} (hw : ∀ d ∈ tables_1, d.before a0 Z = true) : Jvm.RoadKit.slotOf Z "com/example/reachability/reachability/CandidateList" "firstOnly" "Z" ≠ Jvm.RoadKit.slotOf Z "com/example/reachability/reachability/CandidateList" "elements" "[I" := slot_ne (Or.inl (hw _ (List.mem_of_getElem? (i := 47) rfl))) (Or.inr (hw _ (List.mem_of_getElem? (i := 17) rfl))) (by decide) (t := .boolean) (t' := (.array .int)) (by decide) (by decide)
theorem own_sn149 {Z : State} {a0 : Array Value} (hw : ∀ d ∈ tables_1, d.before a0 Z = true) : Jvm.RoadKit.slotOf Z "com/example/reachability/reachability/CandidateList" "forRuns" "Z" ≠ Jvm.RoadKit.slotOf Z "com/example/reachability/reachability/CandidateList" "elements" "[I" := slot_ne (Or.inl (hw _ (List.mem_of_getElem? (i := 49) rfl))) (Or.inr (hw _ (List.mem_of_getElem? (i := 17) rfl))) (by decide) (t := .boolean) (t' := (.array .int)) (by decide) (by decide)
theorem own_sn150 {Z : State} {a0 : Array Value} (hw : ∀ d ∈ tables_1, d.before a0 Z = true) : Jvm.RoadKit.slotOf Z "com/example/reachability/reachability/CandidateList" "runsLength" "I" ≠ Jvm.RoadKit.slotOf Z "com/example/reachability/reachability/CandidateList" "elements" "[I" := slot_ne (Or.inl (hw _ (List.mem_of_getElem? (i := 51) rfl))) (Or.inr (hw _ (List.mem_of_getElem? (i := 17) rfl))) (by decide) (t := .int) (t' := (.array .int)) (by decide) (by decide)
theorem own_sn151 {Z : State} {a0 : Array Value} (hw : ∀ d ∈ tables_1, d.before a0 Z = true) : Jvm.RoadKit.slotOf Z "com/example/reachability/reachability/CandidateList" "search" "I" ≠ Jvm.RoadKit.slotOf Z "com/example/reachability/reachability/CandidateList" "foundIn" "[I" := slot_ne (Or.inl (hw _ (List.mem_of_getElem? (i := 11) rfl))) (Or.inr (hw _ (List.mem_of_getElem? (i := 19) rfl))) (by decide) (t := .int) (t' := (.array .int)) (by decide) (by decide)
theorem own_sn152 {Z : State} {a0 : Array Value} (hw : ∀ d ∈ tables_1, d.before a0 Z = true) : Jvm.RoadKit.slotOf Z "com/example/reachability/reachability/CandidateList" "runs" "[I" ≠ Jvm.RoadKit.slotOf Z "com/example/reachability/reachability/CandidateList" "foundIn" "[I" := slot_ne (Or.inl (hw _ (List.mem_of_getElem? (i := 13) rfl))) (Or.inr (hw _ (List.mem_of_getElem? (i := 19) rfl))) (by decide) (t := (.array .int)) (t' := (.array .int)) (by decide) (by decide)
theorem own_sn153 {Z : State} {a0 : Array Value} (hw : ∀ d ∈ tables_1, d.before a0 Z = true) : Jvm.RoadKit.slotOf Z "com/example/reachability/reachability/CandidateList" "numbers" "[I" ≠ Jvm.RoadKit.slotOf Z "com/example/reachability/reachability/CandidateList" "foundIn" "[I" := slot_ne (Or.inr (hw _ (List.mem_of_getElem? (i := 15) rfl))) (Or.inr (hw _ (List.mem_of_getElem? (i := 19) rfl))) (by decide) (t := (.array .int)) (t' := (.array .int)) (by decide) (by decide)
theorem own_sn154 {Z : State} {a0 : Array Value} (hw : ∀ d ∈ tables_1, d.before a0 Z = true) : Jvm.RoadKit.slotOf Z "com/example/reachability/reachability/CandidateList" "elements" "[I" ≠ Jvm.RoadKit.slotOf Z "com/example/reachability/reachability/CandidateList" "foundIn" "[I" := slot_ne (Or.inr (hw _ (List.mem_of_getElem? (i := 17) rfl))) (Or.inr (hw _ (List.mem_of_getElem? (i := 19) rfl))) (by decide) (t := (.array .int)) (t' := (.array .int)) (by decide) (by decide)
theorem own_sn155 {Z : State} {a0 : Array Value} (hw : ∀ d ∈ tables_1, d.before a0 Z = true) : Jvm.RoadKit.slotOf Z "com/example/reachability/reachability/CandidateList" "next" "[I" ≠ Jvm.RoadKit.slotOf Z "com/example/reachability/reachability/CandidateList" "foundIn" "[I" := slot_ne (Or.inr (hw _ (List.mem_of_getElem? (i := 21) rfl))) (Or.inr (hw _ (List.mem_of_getElem? (i := 19) rfl))) (by decide) (t := (.array .int)) (t' := (.array .int)) (by decide) (by decide)
theorem own_sn156 {Z : State} {a0 : Array Value} (hw : ∀ d ∈ tables_1, d.before a0 Z = true) : Jvm.RoadKit.slotOf Z "com/example/reachability/reachability/CandidateList" "found" "[I" ≠ Jvm.RoadKit.slotOf Z "com/example/reachability/reachability/CandidateList" "foundIn" "[I" := slot_ne (Or.inr (hw _ (List.mem_of_getElem? (i := 23) rfl))) (Or.inr (hw _ (List.mem_of_getElem? (i := 19) rfl))) (by decide) (t := (.array .int)) (t' := (.array .int)) (by decide) (by decide)
theorem own_sn157 {Z : State} {a0 : Array Value} (hw : ∀ d ∈ tables_1, d.before a0 Z = true) : Jvm.RoadKit.slotOf Z "com/example/reachability/reachability/CandidateList" "bucketShift" "I" ≠ Jvm.RoadKit.slotOf Z "com/example/reachability/reachability/CandidateList" "foundIn" "[I" := slot_ne (Or.inr (hw _ (List.mem_of_getElem? (i := 32) rfl))) (Or.inr (hw _ (List.mem_of_getElem? (i := 19) rfl))) (by decide) (t := .int) (t' := (.array .int)) (by decide) (by decide)
theorem own_sn158 {Z : State} {a0 : Array Value} (hw : ∀ d ∈ tables_1, d.before a0 Z = true) : Jvm.RoadKit.slotOf Z "com/example/reachability/reachability/CandidateList" "bucketStart" "[I" ≠ Jvm.RoadKit.slotOf Z "com/example/reachability/reachability/CandidateList" "foundIn" "[I" := slot_ne (Or.inr (hw _ (List.mem_of_getElem? (i := 37) rfl))) (Or.inr (hw _ (List.mem_of_getElem? (i := 19) rfl))) (by decide) (t := (.array .int)) (t' := (.array .int)) (by decide) (by decide)
theorem own_sn159 {Z : State} {a0 : Array Value} (hw : ∀ d ∈ tables_1, d.before a0 Z = true) : Jvm.RoadKit.slotOf Z "com/example/reachability/reachability/CandidateList" "foundCount" "I" ≠ Jvm.RoadKit.slotOf Z "com/example/reachability/reachability/CandidateList" "foundIn" "[I" := slot_ne (Or.inl (hw _ (List.mem_of_getElem? (i := 45) rfl))) (Or.inr (hw _ (List.mem_of_getElem? (i := 19) rfl))) (by decide) (t := .int) (t' := (.array .int)) (by decide) (by decide)
theorem own_sn160 {Z : State} {a0 : Array Value} (hw : ∀ d ∈ tables_1, d.before a0 Z = true) : Jvm.RoadKit.slotOf Z "com/example/reachability/reachability/CandidateList" "firstOnly" "Z" ≠ Jvm.RoadKit.slotOf Z "com/example/reachability/reachability/CandidateList" "foundIn" "[I" := slot_ne (Or.inl (hw _ (List.mem_of_getElem? (i := 47) rfl))) (Or.inr (hw _ (List.mem_of_getElem? (i := 19) rfl))) (by decide) (t := .boolean) (t' := (.array .int)) (by decide) (by decide)
theorem own_sn161 {Z : State} {a0 : Array Value} (hw : ∀ d ∈ tables_1, d.before a0 Z = true) : Jvm.RoadKit.slotOf Z "com/example/reachability/reachability/CandidateList" "forRuns" "Z" ≠ Jvm.RoadKit.slotOf Z "com/example/reachability/reachability/CandidateList" "foundIn" "[I" := slot_ne (Or.inl (hw _ (List.mem_of_getElem? (i := 49) rfl))) (Or.inr (hw _ (List.mem_of_getElem? (i := 19) rfl))) (by decide) (t := .boolean) (t' := (.array .int)) (by decide) (by decide)
theorem own_sn162 {Z : State} {a0 : Array Value} (hw : ∀ d ∈ tables_1, d.before a0 Z = true) : Jvm.RoadKit.slotOf Z "com/example/reachability/reachability/CandidateList" "runsLength" "I" ≠ Jvm.RoadKit.slotOf Z "com/example/reachability/reachability/CandidateList" "foundIn" "[I" := slot_ne (Or.inl (hw _ (List.mem_of_getElem? (i := 51) rfl))) (Or.inr (hw _ (List.mem_of_getElem? (i := 19) rfl))) (by decide) (t := .int) (t' := (.array .int)) (by decide) (by decide)
theorem own_sn163 {Z : State} {a0 : Array Value} (hw : ∀ d ∈ tables_1, d.before a0 Z = true) : Jvm.RoadKit.slotOf Z "com/example/reachability/reachability/CandidateList" "search" "I" ≠ Jvm.RoadKit.slotOf Z "com/example/reachability/reachability/CandidateList" "next" "[I" := slot_ne (Or.inl (hw _ (List.mem_of_getElem? (i := 11) rfl))) (Or.inr (hw _ (List.mem_of_getElem? (i := 21) rfl))) (by decide) (t := .int) (t' := (.array .int)) (by decide) (by decide)
theorem own_sn164 {Z : State} {a0 : Array Value} (hw : ∀ d ∈ tables_1, d.before a0 Z = true) : Jvm.RoadKit.slotOf Z "com/example/reachability/reachability/CandidateList" "runs" "[I" ≠ Jvm.RoadKit.slotOf Z "com/example/reachability/reachability/CandidateList" "next" "[I" := slot_ne (Or.inl (hw _ (List.mem_of_getElem? (i := 13) rfl))) (Or.inr (hw _ (List.mem_of_getElem? (i := 21) rfl))) (by decide) (t := (.array .int)) (t' := (.array .int)) (by decide) (by decide)
theorem own_sn165 {Z : State} {a0 : Array Value} (hw : ∀ d ∈ tables_1, d.before a0 Z = true) : Jvm.RoadKit.slotOf Z "com/example/reachability/reachability/CandidateList" "numbers" "[I" ≠ Jvm.RoadKit.slotOf Z "com/example/reachability/reachability/CandidateList" "next" "[I" := slot_ne (Or.inr (hw _ (List.mem_of_getElem? (i := 15) rfl))) (Or.inr (hw _ (List.mem_of_getElem? (i := 21) rfl))) (by decide) (t := (.array .int)) (t' := (.array .int)) (by decide) (by decide)
theorem own_sn166 {Z : State} {a0 : Array Value} (hw : ∀ d ∈ tables_1, d.before a0 Z = true) : Jvm.RoadKit.slotOf Z "com/example/reachability/reachability/CandidateList" "elements" "[I" ≠ Jvm.RoadKit.slotOf Z "com/example/reachability/reachability/CandidateList" "next" "[I" := slot_ne (Or.inr (hw _ (List.mem_of_getElem? (i := 17) rfl))) (Or.inr (hw _ (List.mem_of_getElem? (i := 21) rfl))) (by decide) (t := (.array .int)) (t' := (.array .int)) (by decide) (by decide)
theorem own_sn167 {Z : State} {a0 : Array Value} (hw : ∀ d ∈ tables_1, d.before a0 Z = true) : Jvm.RoadKit.slotOf Z "com/example/reachability/reachability/CandidateList" "foundIn" "[I" ≠ Jvm.RoadKit.slotOf Z "com/example/reachability/reachability/CandidateList" "next" "[I" := slot_ne (Or.inr (hw _ (List.mem_of_getElem? (i := 19) rfl))) (Or.inr (hw _ (List.mem_of_getElem? (i := 21) rfl))) (by decide) (t := (.array .int)) (t' := (.array .int)) (by decide) (by decide)
theorem own_sn168 {Z : State} {a0 : Array Value} (hw : ∀ d ∈ tables_1, d.before a0 Z = true) : Jvm.RoadKit.slotOf Z "com/example/reachability/reachability/CandidateList" "found" "[I" ≠ Jvm.RoadKit.slotOf Z "com/example/reachability/reachability/CandidateList" "next" "[I" := slot_ne (Or.inr (hw _ (List.mem_of_getElem? (i := 23) rfl))) (Or.inr (hw _ (List.mem_of_getElem? (i := 21) rfl))) (by decide) (t := (.array .int)) (t' := (.array .int)) (by decide) (by decide)
theorem own_sn169 {Z : State} {a0 : Array Value} (hw : ∀ d ∈ tables_1, d.before a0 Z = true) : Jvm.RoadKit.slotOf Z "com/example/reachability/reachability/CandidateList" "bucketShift" "I" ≠ Jvm.RoadKit.slotOf Z "com/example/reachability/reachability/CandidateList" "next" "[I" := slot_ne (Or.inr (hw _ (List.mem_of_getElem? (i := 32) rfl))) (Or.inr (hw _ (List.mem_of_getElem? (i := 21) rfl))) (by decide) (t := .int) (t' := (.array .int)) (by decide) (by decide)
theorem own_sn170 {Z : State} {a0 : Array Value} (hw : ∀ d ∈ tables_1, d.before a0 Z = true) : Jvm.RoadKit.slotOf Z "com/example/reachability/reachability/CandidateList" "bucketStart" "[I" ≠ Jvm.RoadKit.slotOf Z "com/example/reachability/reachability/CandidateList" "next" "[I" := slot_ne (Or.inr (hw _ (List.mem_of_getElem? (i := 37) rfl))) (Or.inr (hw _ (List.mem_of_getElem? (i := 21) rfl))) (by decide) (t := (.array .int)) (t' := (.array .int)) (by decide) (by decide)
theorem own_sn171 {Z : State} {a0 : Array Value} (hw : ∀ d ∈ tables_1, d.before a0 Z = true) : Jvm.RoadKit.slotOf Z "com/example/reachability/reachability/CandidateList" "foundCount" "I" ≠ Jvm.RoadKit.slotOf Z "com/example/reachability/reachability/CandidateList" "next" "[I" := slot_ne (Or.inl (hw _ (List.mem_of_getElem? (i := 45) rfl))) (Or.inr (hw _ (List.mem_of_getElem? (i := 21) rfl))) (by decide) (t := .int) (t' := (.array .int)) (by decide) (by decide)
theorem own_sn172 {Z : State} {a0 : Array Value} (hw : ∀ d ∈ tables_1, d.before a0 Z = true) : Jvm.RoadKit.slotOf Z "com/example/reachability/reachability/CandidateList" "firstOnly" "Z" ≠ Jvm.RoadKit.slotOf Z "com/example/reachability/reachability/CandidateList" "next" "[I" := slot_ne (Or.inl (hw _ (List.mem_of_getElem? (i := 47) rfl))) (Or.inr (hw _ (List.mem_of_getElem? (i := 21) rfl))) (by decide) (t := .boolean) (t' := (.array .int)) (by decide) (by decide)
theorem own_sn173 {Z : State} {a0 : Array Value} (hw : ∀ d ∈ tables_1, d.before a0 Z = true) : Jvm.RoadKit.slotOf Z "com/example/reachability/reachability/CandidateList" "forRuns" "Z" ≠ Jvm.RoadKit.slotOf Z "com/example/reachability/reachability/CandidateList" "next" "[I" := slot_ne (Or.inl (hw _ (List.mem_of_getElem? (i := 49) rfl))) (Or.inr (hw _ (List.mem_of_getElem? (i := 21) rfl))) (by decide) (t := .boolean) (t' := (.array .int)) (by decide) (by decide)
theorem own_sn174 {Z : State} {a0 : Array Value} (hw : ∀ d ∈ tables_1, d.before a0 Z = true) : Jvm.RoadKit.slotOf Z "com/example/reachability/reachability/CandidateList" "runsLength" "I" ≠ Jvm.RoadKit.slotOf Z "com/example/reachability/reachability/CandidateList" "next" "[I" := slot_ne (Or.inl (hw _ (List.mem_of_getElem? (i := 51) rfl))) (Or.inr (hw _ (List.mem_of_getElem? (i := 21) rfl))) (by decide) (t := .int) (t' := (.array .int)) (by decide) (by decide)
theorem own_sn175 {Z : State} {a0 : Array Value} (hw : ∀ d ∈ tables_1, d.before a0 Z = true) : Jvm.RoadKit.slotOf Z "com/example/reachability/reachability/CandidateList" "search" "I" ≠ Jvm.RoadKit.slotOf Z "com/example/reachability/reachability/CandidateList" "found" "[I" := slot_ne (Or.inl (hw _ (List.mem_of_getElem? (i := 11) rfl))) (Or.inr (hw _ (List.mem_of_getElem? (i := 23) rfl))) (by decide) (t := .int) (t' := (.array .int)) (by decide) (by decide)
theorem own_sn176 {Z : State} {a0 : Array Value} (hw : ∀ d ∈ tables_1, d.before a0 Z = true) : Jvm.RoadKit.slotOf Z "com/example/reachability/reachability/CandidateList" "runs" "[I" ≠ Jvm.RoadKit.slotOf Z "com/example/reachability/reachability/CandidateList" "found" "[I" := slot_ne (Or.inl (hw _ (List.mem_of_getElem? (i := 13) rfl))) (Or.inr (hw _ (List.mem_of_getElem? (i := 23) rfl))) (by decide) (t := (.array .int)) (t' := (.array .int)) (by decide) (by decide)
theorem own_sn177 {Z : State} {a0 : Array Value} (hw : ∀ d ∈ tables_1, d.before a0 Z = true) : Jvm.RoadKit.slotOf Z "com/example/reachability/reachability/CandidateList" "numbers" "[I" ≠ Jvm.RoadKit.slotOf Z "com/example/reachability/reachability/CandidateList" "found" "[I" := slot_ne (Or.inr (hw _ (List.mem_of_getElem? (i := 15) rfl))) (Or.inr (hw _ (List.mem_of_getElem? (i := 23) rfl))) (by decide) (t := (.array .int)) (t' := (.array .int)) (by decide) (by decide)
theorem own_sn178 {Z : State} {a0 : Array Value} (hw : ∀ d ∈ tables_1, d.before a0 Z = true) : Jvm.RoadKit.slotOf Z "com/example/reachability/reachability/CandidateList" "elements" "[I" ≠ Jvm.RoadKit.slotOf Z "com/example/reachability/reachability/CandidateList" "found" "[I" := slot_ne (Or.inr (hw _ (List.mem_of_getElem? (i := 17) rfl))) (Or.inr (hw _ (List.mem_of_getElem? (i := 23) rfl))) (by decide) (t := (.array .int)) (t' := (.array .int)) (by decide) (by decide)
theorem own_sn179 {Z : State} {a0 : Array Value} (hw : ∀ d ∈ tables_1, d.before a0 Z = true) : Jvm.RoadKit.slotOf Z "com/example/reachability/reachability/CandidateList" "foundIn" "[I" ≠ Jvm.RoadKit.slotOf Z "com/example/reachability/reachability/CandidateList" "found" "[I" := slot_ne (Or.inr (hw _ (List.mem_of_getElem? (i := 19) rfl))) (Or.inr (hw _ (List.mem_of_getElem? (i := 23) rfl))) (by decide) (t := (.array .int)) (t' := (.array .int)) (by decide) (by decide)
theorem own_sn180 {Z : State} {a0 : Array Value} (hw : ∀ d ∈ tables_1, d.before a0 Z = true) : Jvm.RoadKit.slotOf Z "com/example/reachability/reachability/CandidateList" "next" "[I" ≠ Jvm.RoadKit.slotOf Z "com/example/reachability/reachability/CandidateList" "found" "[I" := slot_ne (Or.inr (hw _ (List.mem_of_getElem? (i := 21) rfl))) (Or.inr (hw _ (List.mem_of_getElem? (i := 23) rfl))) (by decide) (t := (.array .int)) (t' := (.array .int)) (by decide) (by decide)
theorem own_sn181 {Z : State} {a0 : Array Value} (hw : ∀ d ∈ tables_1, d.before a0 Z = true) : Jvm.RoadKit.slotOf Z "com/example/reachability/reachability/CandidateList" "bucketShift" "I" ≠ Jvm.RoadKit.slotOf Z "com/example/reachability/reachability/CandidateList" "found" "[I" := slot_ne (Or.inr (hw _ (List.mem_of_getElem? (i := 32) rfl))) (Or.inr (hw _ (List.mem_of_getElem? (i := 23) rfl))) (by decide) (t := .int) (t' := (.array .int)) (by decide) (by decide)
theorem own_sn182 {Z : State} {a0 : Array Value} (hw : ∀ d ∈ tables_1, d.before a0 Z = true) : Jvm.RoadKit.slotOf Z "com/example/reachability/reachability/CandidateList" "bucketStart" "[I" ≠ Jvm.RoadKit.slotOf Z "com/example/reachability/reachability/CandidateList" "found" "[I" := slot_ne (Or.inr (hw _ (List.mem_of_getElem? (i := 37) rfl))) (Or.inr (hw _ (List.mem_of_getElem? (i := 23) rfl))) (by decide) (t := (.array .int)) (t' := (.array .int)) (by decide) (by decide)
theorem own_sn183 {Z : State} {a0 : Array Value} (hw : ∀ d ∈ tables_1, d.before a0 Z = true) : Jvm.RoadKit.slotOf Z "com/example/reachability/reachability/CandidateList" "foundCount" "I" ≠ Jvm.RoadKit.slotOf Z "com/example/reachability/reachability/CandidateList" "found" "[I" := slot_ne (Or.inl (hw _ (List.mem_of_getElem? (i := 45) rfl))) (Or.inr (hw _ (List.mem_of_getElem? (i := 23) rfl))) (by decide) (t := .int) (t' := (.array .int)) (by decide) (by decide)
theorem own_sn184 {Z : State} {a0 : Array Value} (hw : ∀ d ∈ tables_1, d.before a0 Z = true) : Jvm.RoadKit.slotOf Z "com/example/reachability/reachability/CandidateList" "firstOnly" "Z" ≠ Jvm.RoadKit.slotOf Z "com/example/reachability/reachability/CandidateList" "found" "[I" := slot_ne (Or.inl (hw _ (List.mem_of_getElem? (i := 47) rfl))) (Or.inr (hw _ (List.mem_of_getElem? (i := 23) rfl))) (by decide) (t := .boolean) (t' := (.array .int)) (by decide) (by decide)
theorem own_sn185 {Z : State} {a0 : Array Value} (hw : ∀ d ∈ tables_1, d.before a0 Z = true) : Jvm.RoadKit.slotOf Z "com/example/reachability/reachability/CandidateList" "forRuns" "Z" ≠ Jvm.RoadKit.slotOf Z "com/example/reachability/reachability/CandidateList" "found" "[I" := slot_ne (Or.inl (hw _ (List.mem_of_getElem? (i := 49) rfl))) (Or.inr (hw _ (List.mem_of_getElem? (i := 23) rfl))) (by decide) (t := .boolean) (t' := (.array .int)) (by decide) (by decide)
theorem own_sn186 {Z : State} {a0 : Array Value} (hw : ∀ d ∈ tables_1, d.before a0 Z = true) : Jvm.RoadKit.slotOf Z "com/example/reachability/reachability/CandidateList" "runsLength" "I" ≠ Jvm.RoadKit.slotOf Z "com/example/reachability/reachability/CandidateList" "found" "[I" := slot_ne (Or.inl (hw _ (List.mem_of_getElem? (i := 51) rfl))) (Or.inr (hw _ (List.mem_of_getElem? (i := 23) rfl))) (by decide) (t := .int) (t' := (.array .int)) (by decide) (by decide)
theorem own_pd187 : parseMethodDescriptor "([I)I" = some ⟨[(.array .int)], some .int⟩ := by decide +kernel
theorem own_sn188 {Z : State} {a0 : Array Value} (hw : ∀ d ∈ tables_1, d.before a0 Z = true) : Jvm.RoadKit.slotOf Z "com/example/reachability/reachability/CandidateList" "search" "I" ≠ Jvm.RoadKit.slotOf Z "com/example/reachability/reachability/CandidateList" "bucketShift" "I" := slot_ne (Or.inl (hw _ (List.mem_of_getElem? (i := 11) rfl))) (Or.inr (hw _ (List.mem_of_getElem? (i := 32) rfl))) (by decide) (t := .int) (t' := .int) (by decide) (by decide)
theorem own_sn189 {Z : State} {a0 : Array Value} (hw : ∀ d ∈ tables_1, d.before a0 Z = true) : Jvm.RoadKit.slotOf Z "com/example/reachability/reachability/CandidateList" "runs" "[I" ≠ Jvm.RoadKit.slotOf Z "com/example/reachability/reachability/CandidateList" "bucketShift" "I" := slot_ne (Or.inl (hw _ (List.mem_of_getElem? (i := 13) rfl))) (Or.inr (hw _ (List.mem_of_getElem? (i := 32) rfl))) (by decide) (t := (.array .int)) (t' := .int) (by decide) (by decide)
theorem own_sn190 {Z : State} {a0 : Array Value} (hw : ∀ d ∈ tables_1, d.before a0 Z = true) : Jvm.RoadKit.slotOf Z "com/example/reachability/reachability/CandidateList" "numbers" "[I" ≠ Jvm.RoadKit.slotOf Z "com/example/reachability/reachability/CandidateList" "bucketShift" "I" := slot_ne (Or.inr (hw _ (List.mem_of_getElem? (i := 15) rfl))) (Or.inr (hw _ (List.mem_of_getElem? (i := 32) rfl))) (by decide) (t := (.array .int)) (t' := .int) (by decide) (by decide)
theorem own_sn191 {Z : State} {a0 : Array Value} (hw : ∀ d ∈ tables_1, d.before a0 Z = true) : Jvm.RoadKit.slotOf Z "com/example/reachability/reachability/CandidateList" "elements" "[I" ≠ Jvm.RoadKit.slotOf Z "com/example/reachability/reachability/CandidateList" "bucketShift" "I" := slot_ne (Or.inr (hw _ (List.mem_of_getElem? (i := 17) rfl))) (Or.inr (hw _ (List.mem_of_getElem? (i := 32) rfl))) (by decide) (t := (.array .int)) (t' := .int) (by decide) (by decide)
theorem own_sn192 {Z : State} {a0 : Array Value} (hw : ∀ d ∈ tables_1, d.before a0 Z = true) : Jvm.RoadKit.slotOf Z "com/example/reachability/reachability/CandidateList" "foundIn" "[I" ≠ Jvm.RoadKit.slotOf Z "com/example/reachability/reachability/CandidateList" "bucketShift" "I" := slot_ne (Or.inr (hw _ (List.mem_of_getElem? (i := 19) rfl))) (Or.inr (hw _ (List.mem_of_getElem? (i := 32) rfl))) (by decide) (t := (.array .int)) (t' := .int) (by decide) (by decide)
theorem own_sn193 {Z : State} {a0 : Array Value} (hw : ∀ d ∈ tables_1, d.before a0 Z = true) : Jvm.RoadKit.slotOf Z "com/example/reachability/reachability/CandidateList" "next" "[I" ≠ Jvm.RoadKit.slotOf Z "com/example/reachability/reachability/CandidateList" "bucketShift" "I" := slot_ne (Or.inr (hw _ (List.mem_of_getElem? (i := 21) rfl))) (Or.inr (hw _ (List.mem_of_getElem? (i := 32) rfl))) (by decide) (t := (.array .int)) (t' := .int) (by decide) (by decide)
theorem own_sn194 {Z : State} {a0 : Array Value} (hw : ∀ d ∈ tables_1, d.before a0 Z = true) : Jvm.RoadKit.slotOf Z "com/example/reachability/reachability/CandidateList" "found" "[I" ≠ Jvm.RoadKit.slotOf Z "com/example/reachability/reachability/CandidateList" "bucketShift" "I" := slot_ne (Or.inr (hw _ (List.mem_of_getElem? (i := 23) rfl))) (Or.inr (hw _ (List.mem_of_getElem? (i := 32) rfl))) (by decide) (t := (.array .int)) (t' := .int) (by decide) (by decide)
theorem own_sn195 {Z : State} {a0 : Array Value} (hw : ∀ d ∈ tables_1, d.before a0 Z = true) : Jvm.RoadKit.slotOf Z "com/example/reachability/reachability/CandidateList" "bucketStart" "[I" ≠ Jvm.RoadKit.slotOf Z "com/example/reachability/reachability/CandidateList" "bucketShift" "I" := slot_ne (Or.inr (hw _ (List.mem_of_getElem? (i := 37) rfl))) (Or.inr (hw _ (List.mem_of_getElem? (i := 32) rfl))) (by decide) (t := (.array .int)) (t' := .int) (by decide) (by decide)
theorem own_sn196 {Z : State} {a0 : Array Value} (hw : ∀ d ∈ tables_1, d.before a0 Z = true) : Jvm.RoadKit.slotOf Z "com/example/reachability/reachability/CandidateList" "foundCount" "I" ≠ Jvm.RoadKit.slotOf Z "com/example/reachability/reachability/CandidateList" "bucketShift" "I" := slot_ne (Or.inl (hw _ (List.mem_of_getElem? (i := 45) rfl))) (Or.inr (hw _ (List.mem_of_getElem? (i := 32) rfl))) (by decide) (t := .int) (t' := .int) (by decide) (by decide)
theorem own_sn197 {Z : State} {a0 : Array Value} (hw : ∀ d ∈ tables_1, d.before a0 Z = true) : Jvm.RoadKit.slotOf Z "com/example/reachability/reachability/CandidateList" "firstOnly" "Z" ≠ Jvm.RoadKit.slotOf Z "com/example/reachability/reachability/CandidateList" "bucketShift" "I" := slot_ne (Or.inl (hw _ (List.mem_of_getElem? (i := 47) rfl))) (Or.inr (hw _ (List.mem_of_getElem? (i := 32) rfl))) (by decide) (t := .boolean) (t' := .int) (by decide) (by decide)
theorem own_sn198 {Z : State} {a0 : Array Value} (hw : ∀ d ∈ tables_1, d.before a0 Z = true) : Jvm.RoadKit.slotOf Z "com/example/reachability/reachability/CandidateList" "forRuns" "Z" ≠ Jvm.RoadKit.slotOf Z "com/example/reachability/reachability/CandidateList" "bucketShift" "I" := slot_ne (Or.inl (hw _ (List.mem_of_getElem? (i := 49) rfl))) (Or.inr (hw _ (List.mem_of_getElem? (i := 32) rfl))) (by decide) (t := .boolean) (t' := .int) (by decide) (by decide)
theorem own_sn199 {Z : State} {a0 : Array Value} (hw : ∀ d ∈ tables_1, d.before a0 Z = true) : Jvm.RoadKit.slotOf Z "com/example/reachability/reachability/CandidateList" "runsLength" "I" ≠ Jvm.RoadKit.slotOf Z "com/example/reachability/reachability/CandidateList" "bucketShift" "I" := slot_ne (Or.inl (hw _ (List.mem_of_getElem? (i := 51) rfl))) (Or.inr (hw _ (List.mem_of_getElem? (i := 32) rfl))) (by decide) (t := .int) (t' := .int) (by decide) (by decide)
theorem own_pd200 : parseMethodDescriptor "([II)[I" = some ⟨[(.array .int), .int], some (.array .int)⟩ := by decide +kernel
theorem own_sn201 {Z : State} {a0 : Array Value} (hw : ∀ d ∈ tables_1, d.before a0 Z = true) : Jvm.RoadKit.slotOf Z "com/example/reachability/reachability/CandidateList" "search" "I" ≠ Jvm.RoadKit.slotOf Z "com/example/reachability/reachability/CandidateList" "bucketStart" "[I" := slot_ne (Or.inl (hw _ (List.mem_of_getElem? (i := 11) rfl))) (Or.inr (hw _ (List.mem_of_getElem? (i := 37) rfl))) (by decide) (t := .int) (t' := (.array .int)) (by decide) (by decide)
theorem own_sn202 {Z : State} {a0 : Array Value} (hw : ∀ d ∈ tables_1, d.before a0 Z = true) : Jvm.RoadKit.slotOf Z "com/example/reachability/reachability/CandidateList" "runs" "[I" ≠ Jvm.RoadKit.slotOf Z "com/example/reachability/reachability/CandidateList" "bucketStart" "[I" := slot_ne (Or.inl (hw _ (List.mem_of_getElem? (i := 13) rfl))) (Or.inr (hw _ (List.mem_of_getElem? (i := 37) rfl))) (by decide) (t := (.array .int)) (t' := (.array .int)) (by decide) (by decide)
theorem own_sn203 {Z : State} {a0 : Array Value} (hw : ∀ d ∈ tables_1, d.before a0 Z = true) : Jvm.RoadKit.slotOf Z "com/example/reachability/reachability/CandidateList" "numbers" "[I" ≠ Jvm.RoadKit.slotOf Z "com/example/reachability/reachability/CandidateList" "bucketStart" "[I" := slot_ne (Or.inr (hw _ (List.mem_of_getElem? (i := 15) rfl))) (Or.inr (hw _ (List.mem_of_getElem? (i := 37) rfl))) (by decide) (t := (.array .int)) (t' := (.array .int)) (by decide) (by decide)
theorem own_sn204 {Z : State} {a0 : Array Value} (hw : ∀ d ∈ tables_1, d.before a0 Z = true) : Jvm.RoadKit.slotOf Z "com/example/reachability/reachability/CandidateList" "elements" "[I" ≠ Jvm.RoadKit.slotOf Z "com/example/reachability/reachability/CandidateList" "bucketStart" "[I" := slot_ne (Or.inr (hw _ (List.mem_of_getElem? (i := 17) rfl))) (Or.inr (hw _ (List.mem_of_getElem? (i := 37) rfl))) (by decide) (t := (.array .int)) (t' := (.array .int)) (by decide) (by decide)
theorem own_sn205 {Z : State} {a0 : Array Value} (hw : ∀ d ∈ tables_1, d.before a0 Z = true) : Jvm.RoadKit.slotOf Z "com/example/reachability/reachability/CandidateList" "foundIn" "[I" ≠ Jvm.RoadKit.slotOf Z "com/example/reachability/reachability/CandidateList" "bucketStart" "[I" := slot_ne (Or.inr (hw _ (List.mem_of_getElem? (i := 19) rfl))) (Or.inr (hw _ (List.mem_of_getElem? (i := 37) rfl))) (by decide) (t := (.array .int)) (t' := (.array .int)) (by decide) (by decide)
theorem own_sn206 {Z : State} {a0 : Array Value} (hw : ∀ d ∈ tables_1, d.before a0 Z = true) : Jvm.RoadKit.slotOf Z "com/example/reachability/reachability/CandidateList" "next" "[I" ≠ Jvm.RoadKit.slotOf Z "com/example/reachability/reachability/CandidateList" "bucketStart" "[I" := slot_ne (Or.inr (hw _ (List.mem_of_getElem? (i := 21) rfl))) (Or.inr (hw _ (List.mem_of_getElem? (i := 37) rfl))) (by decide) (t := (.array .int)) (t' := (.array .int)) (by decide) (by decide)
theorem own_sn207 {Z : State} {a0 : Array Value} (hw : ∀ d ∈ tables_1, d.before a0 Z = true) : Jvm.RoadKit.slotOf Z "com/example/reachability/reachability/CandidateList" "found" "[I" ≠ Jvm.RoadKit.slotOf Z "com/example/reachability/reachability/CandidateList" "bucketStart" "[I" := slot_ne (Or.inr (hw _ (List.mem_of_getElem? (i := 23) rfl))) (Or.inr (hw _ (List.mem_of_getElem? (i := 37) rfl))) (by decide) (t := (.array .int)) (t' := (.array .int)) (by decide) (by decide)
theorem own_sn208 {Z : State} {a0 : Array Value} (hw : ∀ d ∈ tables_1, d.before a0 Z = true) : Jvm.RoadKit.slotOf Z "com/example/reachability/reachability/CandidateList" "bucketShift" "I" ≠ Jvm.RoadKit.slotOf Z "com/example/reachability/reachability/CandidateList" "bucketStart" "[I" := slot_ne (Or.inr (hw _ (List.mem_of_getElem? (i := 32) rfl))) (Or.inr (hw _ (List.mem_of_getElem? (i := 37) rfl))) (by decide) (t := .int) (t' := (.array .int)) (by decide) (by decide)
theorem own_sn209 {Z : State} {a0 : Array Value} (hw : ∀ d ∈ tables_1, d.before a0 Z = true) : Jvm.RoadKit.slotOf Z "com/example/reachability/reachability/CandidateList" "foundCount" "I" ≠ Jvm.RoadKit.slotOf Z "com/example/reachability/reachability/CandidateList" "bucketStart" "[I" := slot_ne (Or.inl (hw _ (List.mem_of_getElem? (i := 45) rfl))) (Or.inr (hw _ (List.mem_of_getElem? (i := 37) rfl))) (by decide) (t := .int) (t' := (.array .int)) (by decide) (by decide)
theorem own_sn210 {Z : State} {a0 : Array Value} (hw : ∀ d ∈ tables_1, d.before a0 Z = true) : Jvm.RoadKit.slotOf Z "com/example/reachability/reachability/CandidateList" "firstOnly" "Z" ≠ Jvm.RoadKit.slotOf Z "com/example/reachability/reachability/CandidateList" "bucketStart" "[I" := slot_ne (Or.inl (hw _ (List.mem_of_getElem? (i := 47) rfl))) (Or.inr (hw _ (List.mem_of_getElem? (i := 37) rfl))) (by decide) (t := .boolean) (t' := (.array .int)) (by decide) (by decide)
theorem own_sn211 {Z : State} {a0 : Array Value} (hw : ∀ d ∈ tables_1, d.before a0 Z = true) : Jvm.RoadKit.slotOf Z "com/example/reachability/reachability/CandidateList" "forRuns" "Z" ≠ Jvm.RoadKit.slotOf Z "com/example/reachability/reachability/CandidateList" "bucketStart" "[I" := slot_ne (Or.inl (hw _ (List.mem_of_getElem? (i := 49) rfl))) (Or.inr (hw _ (List.mem_of_getElem? (i := 37) rfl))) (by decide) (t := .boolean) (t' := (.array .int)) (by decide) (by decide)
theorem own_sn212 {Z : State} {a0 : Array Value} (hw : ∀ d ∈ tables_1, d.before a0 Z = true) : Jvm.RoadKit.slotOf Z "com/example/reachability/reachability/CandidateList" "runsLength" "I" ≠ Jvm.RoadKit.slotOf Z "com/example/reachability/reachability/CandidateList" "bucketStart" "[I" := slot_ne (Or.inl (hw _ (List.mem_of_getElem? (i := 51) rfl))) (Or.inr (hw _ (List.mem_of_getElem? (i := 37) rfl))) (by decide) (t := .int) (t' := (.array .int)) (by decide) (by decide)
theorem d1_0 : decode prog_2_method_1_code 0 = .ok (.aload_n 0, 1) := by decide +kernel
theorem d1_1 : decode prog_2_method_1_code 1 = .ok (.invokespecial 1, 3) := by decide +kernel
theorem d1_4 : decode prog_2_method_1_code 4 = .ok (.aload_n 0, 1) := by decide +kernel
theorem d1_5 : decode prog_2_method_1_code 5 = .ok (.iconst 1, 1) := by decide +kernel
theorem d1_6 : decode prog_2_method_1_code 6 = .ok (.putfield 7, 3) := by decide +kernel
theorem d1_9 : decode prog_2_method_1_code 9 = .ok (.aload_n 0, 1) := by decide +kernel
theorem d1_10 : decode prog_2_method_1_code 10 = .ok (.bipush 8, 2) := by decide +kernel
theorem d1_12 : decode prog_2_method_1_code 12 = .ok (.newarray .int, 2) := by decide +kernel
theorem d1_14 : decode prog_2_method_1_code 14 = .ok (.putfield 13, 3) := by decide +kernel
theorem d1_17 : decode prog_2_method_1_code 17 = .ok (.aload_n 0, 1) := by decide +kernel
theorem d1_18 : decode prog_2_method_1_code 18 = .ok (.aload_n 1, 1) := by decide +kernel
theorem d1_19 : decode prog_2_method_1_code 19 = .ok (.putfield 17, 3) := by decide +kernel
theorem d1_22 : decode prog_2_method_1_code 22 = .ok (.aload_n 0, 1) := by decide +kernel
theorem d1_23 : decode prog_2_method_1_code 23 = .ok (.aload_n 2, 1) := by decide +kernel
theorem d1_24 : decode prog_2_method_1_code 24 = .ok (.putfield 20, 3) := by decide +kernel
theorem d1_27 : decode prog_2_method_1_code 27 = .ok (.aload_n 0, 1) := by decide +kernel
theorem d1_28 : decode prog_2_method_1_code 28 = .ok (.aload_n 1, 1) := by decide +kernel
theorem d1_29 : decode prog_2_method_1_code 29 = .ok (.arraylength, 1) := by decide +kernel
theorem d1_30 : decode prog_2_method_1_code 30 = .ok (.newarray .int, 2) := by decide +kernel
theorem d1_32 : decode prog_2_method_1_code 32 = .ok (.putfield 23, 3) := by decide +kernel
theorem d1_35 : decode prog_2_method_1_code 35 = .ok (.aload_n 0, 1) := by decide +kernel
theorem d1_36 : decode prog_2_method_1_code 36 = .ok (.aload_n 1, 1) := by decide +kernel
theorem d1_37 : decode prog_2_method_1_code 37 = .ok (.arraylength, 1) := by decide +kernel
theorem d1_38 : decode prog_2_method_1_code 38 = .ok (.newarray .int, 2) := by decide +kernel
theorem d1_40 : decode prog_2_method_1_code 40 = .ok (.putfield 26, 3) := by decide +kernel
theorem d1_43 : decode prog_2_method_1_code 43 = .ok (.aload_n 0, 1) := by decide +kernel
theorem d1_44 : decode prog_2_method_1_code 44 = .ok (.aload_n 1, 1) := by decide +kernel
theorem d1_45 : decode prog_2_method_1_code 45 = .ok (.arraylength, 1) := by decide +kernel
theorem d1_46 : decode prog_2_method_1_code 46 = .ok (.newarray .int, 2) := by decide +kernel
theorem d1_48 : decode prog_2_method_1_code 48 = .ok (.putfield 29, 3) := by decide +kernel
theorem d1_51 : decode prog_2_method_1_code 51 = .ok (.aload_n 0, 1) := by decide +kernel
theorem d1_52 : decode prog_2_method_1_code 52 = .ok (.aload_n 1, 1) := by decide +kernel
theorem d1_53 : decode prog_2_method_1_code 53 = .ok (.invokestatic 32, 3) := by decide +kernel
theorem d1_56 : decode prog_2_method_1_code 56 = .ok (.putfield 36, 3) := by decide +kernel
theorem d1_59 : decode prog_2_method_1_code 59 = .ok (.aload_n 0, 1) := by decide +kernel
theorem d1_60 : decode prog_2_method_1_code 60 = .ok (.aload_n 1, 1) := by decide +kernel
theorem d1_61 : decode prog_2_method_1_code 61 = .ok (.aload_n 0, 1) := by decide +kernel
theorem d1_62 : decode prog_2_method_1_code 62 = .ok (.getfield 36, 3) := by decide +kernel
theorem d1_65 : decode prog_2_method_1_code 65 = .ok (.invokestatic 38, 3) := by decide +kernel
theorem d1_68 : decode prog_2_method_1_code 68 = .ok (.putfield 42, 3) := by decide +kernel
theorem d1_71 : decode prog_2_method_1_code 71 = .ok (.return_, 1) := by decide +kernel
theorem pn_1 : plainName "com/example/reachability/reachability/CandidateList" = true := by first | (simp [plainName, overriddenIn]; done) | decide +kernel
theorem ef_1 (m : MethodId) (r0 : Addr) (r1 : Addr) (r2 : Addr) : entryFrame m #[(.ref r0), (.ref r1), (.ref r2)] 3 = mkF m 0 #[.val (.ref r0), .val (.ref r1), .val (.ref r2)] [] := by first | (simp [entryFrame, mkF, argsToLocals, Value.category]; done) | rfl
def rm1_room : Room := { frames := 2, cells := 5, slots := 21, locals := 29 }
def Qrm1 (Z : State) (r0 : Addr) (r1 : Addr) (r2 : Addr) (xg : Nat → Int32) (h0 : Heap) (n0 : Nat) (v : Option Value) (h : Heap) (L : List Loc) : Prop := ∃ rF : Addr, ∃ rX : Addr, ∃ rD : Addr, ∃ rB : Addr, ∃ gB : Nat → Int32, v = none ∧ Fr n0 L ∧ Keep h0 h [r0] ∧ h0.size ≤ rF ∧ h0.size ≤ rX ∧ h0.size ≤ rD ∧ h0.size ≤ rB ∧ Exa Z h r0 "com/example/reachability/reachability/CandidateList" ∧ Fld Z h r0 "com/example/reachability/reachability/CandidateList" "search" "I" (.int (1 : Int32)) ∧ Fld Z h r0 "com/example/reachability/reachability/CandidateList" "numbers" "[I" (.ref r1) ∧ Fld Z h r0 "com/example/reachability/reachability/CandidateList" "elements" "[I" (.ref r2) ∧ Fld Z h r0 "com/example/reachability/reachability/CandidateList" "foundIn" "[I" (.ref rF) ∧ Fld Z h r0 "com/example/reachability/reachability/CandidateList" "next" "[I" (.ref rX) ∧ Fld Z h r0 "com/example/reachability/reachability/CandidateList" "found" "[I" (.ref rD) ∧ Fld Z h r0 "com/example/reachability/reachability/CandidateList" "bucketShift" "I" (.int (own_f3 xg)) ∧ Fld Z h r0 "com/example/reachability/reachability/CandidateList" "bucketStart" "[I" (.ref rB) ∧ Fld Z h r0 "com/example/reachability/reachability/CandidateList" "foundCount" "I" (.int (0 : Int32)) ∧ Fld Z h r0 "com/example/reachability/reachability/CandidateList" "firstOnly" "Z" (.int (0 : Int32)) ∧ Fld Z h r0 "com/example/reachability/reachability/CandidateList" "forRuns" "Z" (.int (0 : Int32)) ∧ Fld Z h r0 "com/example/reachability/reachability/CandidateList" "runsLength" "I" (.int (0 : Int32)) ∧ own_Arf Z h rF .int (3 : Int32) (fun i => .int ((fun _ => (0 : Int32)) i)) ∧ own_Arf Z h rX .int (3 : Int32) (fun i => .int ((fun _ => (0 : Int32)) i)) ∧ own_Arf Z h rD .int (3 : Int32) (fun i => .int ((fun _ => (0 : Int32)) i)) ∧ own_Arf Z h rB .int ((own_iushr (xg 2) (own_f3 xg)) + (2 : Int32)) (fun i => .int (gB i)) ∧ rF ≠ rX ∧ rF ≠ rD ∧ rF ≠ rB ∧ rX ≠ rD ∧ rX ≠ rB ∧ rD ≠ rB ∧ own_spB xg (own_f3 xg) gB
set_option maxRecDepth 65536 in
set_option maxHeartbeats 40000000 in
theorem rm1 (l : Launch) (Z : State) (a0 : Array Value) (hw : ∀ d ∈ tables_1, d.before a0 Z = true) (ws : List Jvm.Cond) (r0 : Addr) (r1 : Addr) (r2 : Addr) (xg : Nat → Int32) (h0 : Heap) (n0 : Nat) (Z0 : n0 ≤ h0.size) (E_r0_0 : Exa Z h0 r0 "com/example/reachability/reachability/CandidateList") (F_search_r0_0 : Fld Z h0 r0 "com/example/reachability/reachability/CandidateList" "search" "I" (.int (0 : Int32))) (F_runs_r0_0 : Fld Z h0 r0 "com/example/reachability/reachability/CandidateList" "runs" "[I" .null) (F_numbers_r0_0 : Fld Z h0 r0 "com/example/reachability/reachability/CandidateList" "numbers" "[I" .null) (F_elements_r0_0 : Fld Z h0 r0 "com/example/reachability/reachability/CandidateList" "elements" "[I" .null) (F_foundIn_r0_0 : Fld Z h0 r0 "com/example/reachability/reachability/CandidateList" "foundIn" "[I" .null) (F_next_r0_0 : Fld Z h0 r0 "com/example/reachability/reachability/CandidateList" "next" "[I" .null) (F_found_r0_0 : Fld Z h0 r0 "com/example/reachability/reachability/CandidateList" "found" "[I" .null) (F_bucketShift_r0_0 : Fld Z h0 r0 "com/example/reachability/reachability/CandidateList" "bucketShift" "I" (.int (0 : Int32))) (F_bucketStart_r0_0 : Fld Z h0 r0 "com/example/reachability/reachability/CandidateList" "bucketStart" "[I" .null) (F_foundCount_r0_0 : Fld Z h0 r0 "com/example/reachability/reachability/CandidateList" "foundCount" "I" (.int (0 : Int32))) (F_firstOnly_r0_0 : Fld Z h0 r0 "com/example/reachability/reachability/CandidateList" "firstOnly" "Z" (.int (0 : Int32))) (F_forRuns_r0_0 : Fld Z h0 r0 "com/example/reachability/reachability/CandidateList" "forRuns" "Z" (.int (0 : Int32))) (F_runsLength_r0_0 : Fld Z h0 r0 "com/example/reachability/reachability/CandidateList" "runsLength" "I" (.int (0 : Int32))) (A_r1_0 : own_Arf Z h0 r1 .int (3 : Int32) (fun i => .int (xg i))) (ge_r0 : n0 ≤ r0) (hp : own_srt xg) :
    MetFree l (⟨"com/example/reachability/reachability/CandidateList", "<init>", "([I[I)V"⟩ : MethodName) (head1 (Jvm.Cond.code (⟨"com/example/reachability/reachability/CandidateList", "<init>", "([I[I)V"⟩ : MethodName) prog_2_method_1_code 3 none :: ws) rm1_room) (fun a U => a = #[(.ref r0), (.ref r1), (.ref r2)] ∧ Z.Warmed39 U.vm ∧ U.heap = h0) (fun _ _ _ _ _ => True) (fun _ U o U' => ∃ v L, o = .returned v ∧ Qrm1 Z r0 r1 r2 xg h0 n0 v U'.heap L ∧ FrameEnd U o U' L rm1_room.cells rm1_room.slots) := by
  refine MetFree.of_bodySF (plainFor_of_name pn_1) hisR ?_
  intro p e s m args below meth c s₁ Bd hml0 hP hK
  obtain ⟨rfl, hZ, hh⟩ := hP
  have hx := Bd.exec
  have hby := Bd.bytes
  have hml : c.maxLocals = 3 := hml0
  have hown : s.vm.findClass "com/example/reachability/reachability/CandidateList" = some m.cls := findClass_of_methodNamed Bd.named
  have hnm := (name_of_methodNamed Bd.named Bd.method).1
  have hlk : meth.locks = false := BodyLoose.notSynchronized Bd
  have X0 : Stand p l e rm1_room s m #[(.ref r0), (.ref r1), (.ref r2)] below meth c s₁ [] 0 0 := Stand.of_body Bd
  have e0 : s₁.heap = h0 := by rw [← hh, Bd.state]; rfl
  have N0 := Fr.nil n0
  show own_Fin p.tables e below s (Qrm1 Z r0 r1 r2 xg h0 n0) rm1_room.cells rm1_room.slots (s₁.setTop (entryFrame m #[(.ref r0), (.ref r1), (.ref r2)] 3))
  rw [ef_1]
  show own_Fin _ _ _ _ _ _ _ (s₁.setTop (mkF m 0 #[.val (.ref r0), .val (.ref r1), .val (.ref r2)] []))
  have K0 := Keep.refl h0 [r0]
  refine own_go (fun _ k => XS.aloadN X0.here hx rfl (hb hby d1_0) rfl rfl k) ?_
  obtain ⟨T1, X1, e1, st1⟩ := initO X0 hx hZ hown (hw _ (List.mem_of_getElem? (i := 7) rfl)) (hw _ (List.mem_of_getElem? (i := 8) rfl)) (hw _ (List.mem_of_getElem? (i := 9) rfl)) e0 (g := (mkF m 1 #[.val (.ref r0), .val (.ref r1), .val (.ref r2)] [(.ref r0)])) rfl (by rw [hml]; rfl) rfl (hb hby d1_1) (by decide) (W := 0) (by show 2 * 0 + _ ≤ _; exact Nat.le_of_eq rfl) (by decide)
  refine own_go (fun tg k => st1 tg k) ?_
  show own_Fin _ _ _ _ _ _ _ (T1.setTop (mkF m 4 #[.val (.ref r0), .val (.ref r1), .val (.ref r2)] []))
  refine own_go (fun _ k => XS.aloadN X1.here hx rfl (hb hby d1_4) rfl rfl k) ?_
  refine own_go (fun _ k => XS.iconst X1.here hx rfl (hb hby d1_5) k) ?_
  obtain ⟨T2, h2, X2, e2, W2, st2⟩ := putF X1 hx hZ hown (host := "") (Or.inl (hw _ (List.mem_of_getElem? (i := 10) rfl))) Via.refl e1 F_search_r0_0 E_r0_0 (Or.inl (hw _ (List.mem_of_getElem? (i := 11) rfl))) (hw _ (List.mem_of_getElem? (i := 1) rfl)) (ty := .int) (by decide) rfl rfl (g := (mkF m 6 #[.val (.ref r0), .val (.ref r1), .val (.ref r2)] [(.int (1 : Int32)), (.ref r0)])) rfl rfl (hb hby d1_6)
  have E_r0_2 := E_r0_0.wr W2
  have F_runs_r0_2 := F_runs_r0_0.other W2 (Or.inr (own_sn103 hw))
  have F_numbers_r0_2 := F_numbers_r0_0.other W2 (Or.inr (own_sn104 hw))
  have F_elements_r0_2 := F_elements_r0_0.other W2 (Or.inr (own_sn105 hw))
  have F_foundIn_r0_2 := F_foundIn_r0_0.other W2 (Or.inr (own_sn106 hw))
  have F_next_r0_2 := F_next_r0_0.other W2 (Or.inr (own_sn107 hw))
  have F_found_r0_2 := F_found_r0_0.other W2 (Or.inr (own_sn108 hw))
  have F_bucketShift_r0_2 := F_bucketShift_r0_0.other W2 (Or.inr (own_sn109 hw))
  have F_bucketStart_r0_2 := F_bucketStart_r0_0.other W2 (Or.inr (own_sn110 hw))
  have F_foundCount_r0_2 := F_foundCount_r0_0.other W2 (Or.inr (own_sn111 hw))
  have F_firstOnly_r0_2 := F_firstOnly_r0_0.other W2 (Or.inr (own_sn112 hw))
  have F_forRuns_r0_2 := F_forRuns_r0_0.other W2 (Or.inr (own_sn113 hw))
  have F_runsLength_r0_2 := F_runsLength_r0_0.other W2 (Or.inr (own_sn114 hw))
  have A_r1_2 := A_r1_0.other W2 (Ne.symm (own_ne_arf E_r0_0 (hw _ (List.mem_of_getElem? (i := 1) rfl)) A_r1_0))
  have K2 := K0.wr W2 (Or.inl (List.mem_of_getElem? (i := 0) rfl))
  have N2 := Fr.snoc X2 N0 ge_r0
  have Z2 : n0 ≤ h2.size := Nat.le_trans Z0 (Keep.of_wr W2).1
  have F_search_r0_2 := F_search_r0_0.same W2
  refine own_go (fun tg k => st2 tg k) ?_
  show own_Fin _ _ _ _ _ _ _ (T2.setTop (mkF m 9 #[.val (.ref r0), .val (.ref r1), .val (.ref r2)] []))
  refine own_go (fun _ k => XS.aloadN X2.here hx rfl (hb hby d1_9) rfl rfl k) ?_
  refine own_go (fun _ k => XS.bipush X2.here hx rfl (hb hby d1_10) k) ?_
  obtain ⟨T3, h3, k3, X3, e3, E3, A3, st3⟩ := newP X2 hx hZ (hw _ (List.mem_of_getElem? (i := 3) rfl)) e2 (g := (mkF m 12 #[.val (.ref r0), .val (.ref r1), .val (.ref r2)] [(.int (8 : Int32)), (.ref r0)])) rfl (hb hby d1_12) rfl (by decide) (cap := 8) (by decide) (by decide) (by decide) (by decide)
  obtain ⟨b3, g3⟩ : ∃ z, z = h2.size := ⟨_, rfl⟩
  rw [← g3] at A3 st3
  have ne_r0_b3 : r0 ≠ b3 := Nat.ne_of_lt (Nat.lt_of_lt_of_le E_r0_2.lt (Nat.le_of_eq g3.symm))
  have ne_r1_b3 : r1 ≠ b3 := Nat.ne_of_lt (Nat.lt_of_lt_of_le A_r1_2.lt (Nat.le_of_eq g3.symm))
  have ge_b3 : n0 ≤ b3 := Nat.le_trans Z2 (Nat.le_of_eq g3.symm)
  have sz_b3 : h0.size ≤ b3 := Nat.le_trans K2.1 (Nat.le_of_eq g3.symm)
  have E_r0_3 := E_r0_2.ext E3
  have F_search_r0_3 := F_search_r0_2.ext E3
  have F_runs_r0_3 := F_runs_r0_2.ext E3
  have F_numbers_r0_3 := F_numbers_r0_2.ext E3
  have F_elements_r0_3 := F_elements_r0_2.ext E3
  have F_foundIn_r0_3 := F_foundIn_r0_2.ext E3
  have F_next_r0_3 := F_next_r0_2.ext E3
  have F_found_r0_3 := F_found_r0_2.ext E3
  have F_bucketShift_r0_3 := F_bucketShift_r0_2.ext E3
  have F_bucketStart_r0_3 := F_bucketStart_r0_2.ext E3
  have F_foundCount_r0_3 := F_foundCount_r0_2.ext E3
  have F_firstOnly_r0_3 := F_firstOnly_r0_2.ext E3
  have F_forRuns_r0_3 := F_forRuns_r0_2.ext E3
  have F_runsLength_r0_3 := F_runsLength_r0_2.ext E3
  have A_r1_3 := A_r1_2.ext E3
  have K3 := K2.ext E3
  have Z3 : n0 ≤ h3.size := Nat.le_trans Z2 E3.1
  have A_b3_3 : own_Arf Z h3 b3 .int (8 : Int32) (fun i => .int ((fun _ => (0 : Int32)) i)) := own_Arf.new A3 (by decide)
  refine own_go (fun tg k => st3 tg k) ?_
  show own_Fin _ _ _ _ _ _ _ (T3.setTop (mkF m 14 #[.val (.ref r0), .val (.ref r1), .val (.ref r2)] [(.ref b3), (.ref r0)]))
  obtain ⟨T4, h4, X4, e4, W4, st4⟩ := putF X3 hx hZ hown (host := "") (Or.inl (hw _ (List.mem_of_getElem? (i := 12) rfl))) Via.refl e3 F_runs_r0_3 E_r0_3 (Or.inl (hw _ (List.mem_of_getElem? (i := 13) rfl))) (hw _ (List.mem_of_getElem? (i := 1) rfl)) (ty := (.array .int)) (by decide) rfl rfl (g := (mkF m 14 #[.val (.ref r0), .val (.ref r1), .val (.ref r2)] [(.ref b3), (.ref r0)])) rfl rfl (hb hby d1_14)
  have E_r0_4 := E_r0_3.wr W4
  have F_search_r0_4 := F_search_r0_3.other W4 (Or.inr (own_sn115 hw))
  have F_numbers_r0_4 := F_numbers_r0_3.other W4 (Or.inr (own_sn116 hw))
  have F_elements_r0_4 := F_elements_r0_3.other W4 (Or.inr (own_sn117 hw))
  have F_foundIn_r0_4 := F_foundIn_r0_3.other W4 (Or.inr (own_sn118 hw))
  have F_next_r0_4 := F_next_r0_3.other W4 (Or.inr (own_sn119 hw))
  have F_found_r0_4 := F_found_r0_3.other W4 (Or.inr (own_sn120 hw))
  have F_bucketShift_r0_4 := F_bucketShift_r0_3.other W4 (Or.inr (own_sn121 hw))
  have F_bucketStart_r0_4 := F_bucketStart_r0_3.other W4 (Or.inr (own_sn122 hw))
  have F_foundCount_r0_4 := F_foundCount_r0_3.other W4 (Or.inr (own_sn123 hw))
  have F_firstOnly_r0_4 := F_firstOnly_r0_3.other W4 (Or.inr (own_sn124 hw))
  have F_forRuns_r0_4 := F_forRuns_r0_3.other W4 (Or.inr (own_sn125 hw))
  have F_runsLength_r0_4 := F_runsLength_r0_3.other W4 (Or.inr (own_sn126 hw))
  have A_r1_4 := A_r1_3.other W4 (Ne.symm (own_ne_arf E_r0_3 (hw _ (List.mem_of_getElem? (i := 1) rfl)) A_r1_3))
  have A_b3_4 := A_b3_3.other W4 (Ne.symm ne_r0_b3)
  have K4 := K3.wr W4 (Or.inl (List.mem_of_getElem? (i := 0) rfl))
  have N4 := Fr.snoc X4 N2 ge_r0
  have Z4 : n0 ≤ h4.size := Nat.le_trans Z3 (Keep.of_wr W4).1
  have F_runs_r0_4 := F_runs_r0_3.same W4
  refine own_go (fun tg k => st4 tg k) ?_
  show own_Fin _ _ _ _ _ _ _ (T4.setTop (mkF m 17 #[.val (.ref r0), .val (.ref r1), .val (.ref r2)] []))
  refine own_go (fun _ k => XS.aloadN X4.here hx rfl (hb hby d1_17) rfl rfl k) ?_
  refine own_go (fun _ k => XS.aloadN X4.here hx rfl (hb hby d1_18) rfl rfl k) ?_
  obtain ⟨T5, h5, X5, e5, W5, st5⟩ := putF X4 hx hZ hown (host := "") (Or.inl (hw _ (List.mem_of_getElem? (i := 14) rfl))) Via.refl e4 F_numbers_r0_4 E_r0_4 (Or.inr ⟨(hw _ (List.mem_of_getElem? (i := 15) rfl)), rfl, hnm⟩) (hw _ (List.mem_of_getElem? (i := 1) rfl)) (ty := (.array .int)) (by decide) rfl rfl (g := (mkF m 19 #[.val (.ref r0), .val (.ref r1), .val (.ref r2)] [(.ref r1), (.ref r0)])) rfl rfl (hb hby d1_19)
  have E_r0_5 := E_r0_4.wr W5
  have F_search_r0_5 := F_search_r0_4.other W5 (Or.inr (own_sn127 hw))
  have F_runs_r0_5 := F_runs_r0_4.other W5 (Or.inr (own_sn128 hw))
  have F_elements_r0_5 := F_elements_r0_4.other W5 (Or.inr (own_sn129 hw))
  have F_foundIn_r0_5 := F_foundIn_r0_4.other W5 (Or.inr (own_sn130 hw))
  have F_next_r0_5 := F_next_r0_4.other W5 (Or.inr (own_sn131 hw))
  have F_found_r0_5 := F_found_r0_4.other W5 (Or.inr (own_sn132 hw))
  have F_bucketShift_r0_5 := F_bucketShift_r0_4.other W5 (Or.inr (own_sn133 hw))
  have F_bucketStart_r0_5 := F_bucketStart_r0_4.other W5 (Or.inr (own_sn134 hw))
  have F_foundCount_r0_5 := F_foundCount_r0_4.other W5 (Or.inr (own_sn135 hw))
  have F_firstOnly_r0_5 := F_firstOnly_r0_4.other W5 (Or.inr (own_sn136 hw))
  have F_forRuns_r0_5 := F_forRuns_r0_4.other W5 (Or.inr (own_sn137 hw))
  have F_runsLength_r0_5 := F_runsLength_r0_4.other W5 (Or.inr (own_sn138 hw))
  have A_r1_5 := A_r1_4.other W5 (Ne.symm (own_ne_arf E_r0_4 (hw _ (List.mem_of_getElem? (i := 1) rfl)) A_r1_4))
  have A_b3_5 := A_b3_4.other W5 (Ne.symm ne_r0_b3)
  have K5 := K4.wr W5 (Or.inl (List.mem_of_getElem? (i := 0) rfl))
  have N5 := Fr.snoc X5 N4 ge_r0
  have Z5 : n0 ≤ h5.size := Nat.le_trans Z4 (Keep.of_wr W5).1
  have F_numbers_r0_5 := F_numbers_r0_4.same W5
  refine own_go (fun tg k => st5 tg k) ?_
  show own_Fin _ _ _ _ _ _ _ (T5.setTop (mkF m 22 #[.val (.ref r0), .val (.ref r1), .val (.ref r2)] []))
  refine own_go (fun _ k => XS.aloadN X5.here hx rfl (hb hby d1_22) rfl rfl k) ?_
  refine own_go (fun _ k => XS.aloadN X5.here hx rfl (hb hby d1_23) rfl rfl k) ?_
  obtain ⟨T6, h6, X6, e6, W6, st6⟩ := putF X5 hx hZ hown (host := "") (Or.inl (hw _ (List.mem_of_getElem? (i := 16) rfl))) Via.refl e5 F_elements_r0_5 E_r0_5 (Or.inr ⟨(hw _ (List.mem_of_getElem? (i := 17) rfl)), rfl, hnm⟩) (hw _ (List.mem_of_getElem? (i := 1) rfl)) (ty := (.array .int)) (by decide) rfl rfl (g := (mkF m 24 #[.val (.ref r0), .val (.ref r1), .val (.ref r2)] [(.ref r2), (.ref r0)])) rfl rfl (hb hby d1_24)
  have E_r0_6 := E_r0_5.wr W6
  have F_search_r0_6 := F_search_r0_5.other W6 (Or.inr (own_sn139 hw))
  have F_runs_r0_6 := F_runs_r0_5.other W6 (Or.inr (own_sn140 hw))
  have F_numbers_r0_6 := F_numbers_r0_5.other W6 (Or.inr (own_sn141 hw))
  have F_foundIn_r0_6 := F_foundIn_r0_5.other W6 (Or.inr (own_sn142 hw))
  have F_next_r0_6 := F_next_r0_5.other W6 (Or.inr (own_sn143 hw))
  have F_found_r0_6 := F_found_r0_5.other W6 (Or.inr (own_sn144 hw))
  have F_bucketShift_r0_6 := F_bucketShift_r0_5.other W6 (Or.inr (own_sn145 hw))
  have F_bucketStart_r0_6 := F_bucketStart_r0_5.other W6 (Or.inr (own_sn146 hw))
  have F_foundCount_r0_6 := F_foundCount_r0_5.other W6 (Or.inr (own_sn147 hw))
  have F_firstOnly_r0_6 := F_firstOnly_r0_5.other W6 (Or.inr (own_sn148 hw))
  have F_forRuns_r0_6 := F_forRuns_r0_5.other W6 (Or.inr (own_sn149 hw))
  have F_runsLength_r0_6 := F_runsLength_r0_5.other W6 (Or.inr (own_sn150 hw))
  have A_r1_6 := A_r1_5.other W6 (Ne.symm (own_ne_arf E_r0_5 (hw _ (List.mem_of_getElem? (i := 1) rfl)) A_r1_5))
  have A_b3_6 := A_b3_5.other W6 (Ne.symm ne_r0_b3)
  have K6 := K5.wr W6 (Or.inl (List.mem_of_getElem? (i := 0) rfl))
  have N6 := Fr.snoc X6 N5 ge_r0
  have Z6 : n0 ≤ h6.size := Nat.le_trans Z5 (Keep.of_wr W6).1
  have F_elements_r0_6 := F_elements_r0_5.same W6
  refine own_go (fun tg k => st6 tg k) ?_
  show own_Fin _ _ _ _ _ _ _ (T6.setTop (mkF m 27 #[.val (.ref r0), .val (.ref r1), .val (.ref r2)] []))
  refine own_go (fun _ k => XS.aloadN X6.here hx rfl (hb hby d1_27) rfl rfl k) ?_
  refine own_go (fun _ k => XS.aloadN X6.here hx rfl (hb hby d1_28) rfl rfl k) ?_
  refine own_go (fun tg k => own_alen X6 hx hZ e6 A_r1_6 (g := (mkF m 29 #[.val (.ref r0), .val (.ref r1), .val (.ref r2)] [(.ref r1), (.ref r0)])) rfl rfl (hb hby d1_29) tg k) ?_
  show own_Fin _ _ _ _ _ _ _ (T6.setTop (mkF m 30 #[.val (.ref r0), .val (.ref r1), .val (.ref r2)] [(.int (3 : Int32)), (.ref r0)]))
  obtain ⟨T7, h7, k7, X7, e7, E7, A7, st7⟩ := newP X6 hx hZ (hw _ (List.mem_of_getElem? (i := 3) rfl)) e6 (g := (mkF m 30 #[.val (.ref r0), .val (.ref r1), .val (.ref r2)] [(.int (3 : Int32)), (.ref r0)])) rfl (hb hby d1_30) rfl (by decide) (cap := 3) (by decide) (by decide) (by decide) (by decide)
  obtain ⟨b7, g7⟩ : ∃ z, z = h6.size := ⟨_, rfl⟩
  rw [← g7] at A7 st7
  have ne_r0_b7 : r0 ≠ b7 := Nat.ne_of_lt (Nat.lt_of_lt_of_le E_r0_6.lt (Nat.le_of_eq g7.symm))
  have ne_r1_b7 : r1 ≠ b7 := Nat.ne_of_lt (Nat.lt_of_lt_of_le A_r1_6.lt (Nat.le_of_eq g7.symm))
  have ne_b3_b7 : b3 ≠ b7 := Nat.ne_of_lt (Nat.lt_of_lt_of_le A_b3_6.lt (Nat.le_of_eq g7.symm))
  have ge_b7 : n0 ≤ b7 := Nat.le_trans Z6 (Nat.le_of_eq g7.symm)
  have sz_b7 : h0.size ≤ b7 := Nat.le_trans K6.1 (Nat.le_of_eq g7.symm)
  have E_r0_7 := E_r0_6.ext E7
  have F_search_r0_7 := F_search_r0_6.ext E7
  have F_runs_r0_7 := F_runs_r0_6.ext E7
  have F_numbers_r0_7 := F_numbers_r0_6.ext E7
  have F_elements_r0_7 := F_elements_r0_6.ext E7
  have F_foundIn_r0_7 := F_foundIn_r0_6.ext E7
  have F_next_r0_7 := F_next_r0_6.ext E7
  have F_found_r0_7 := F_found_r0_6.ext E7
  have F_bucketShift_r0_7 := F_bucketShift_r0_6.ext E7
  have F_bucketStart_r0_7 := F_bucketStart_r0_6.ext E7
  have F_foundCount_r0_7 := F_foundCount_r0_6.ext E7
  have F_firstOnly_r0_7 := F_firstOnly_r0_6.ext E7
  have F_forRuns_r0_7 := F_forRuns_r0_6.ext E7
  have F_runsLength_r0_7 := F_runsLength_r0_6.ext E7
  have A_r1_7 := A_r1_6.ext E7
  have A_b3_7 := A_b3_6.ext E7
  have K7 := K6.ext E7
  have Z7 : n0 ≤ h7.size := Nat.le_trans Z6 E7.1
  have A_b7_7 : own_Arf Z h7 b7 .int (3 : Int32) (fun i => .int ((fun _ => (0 : Int32)) i)) := own_Arf.new A7 (by decide)
  refine own_go (fun tg k => st7 tg k) ?_
  show own_Fin _ _ _ _ _ _ _ (T7.setTop (mkF m 32 #[.val (.ref r0), .val (.ref r1), .val (.ref r2)] [(.ref b7), (.ref r0)]))
  obtain ⟨T8, h8, X8, e8, W8, st8⟩ := putF X7 hx hZ hown (host := "") (Or.inl (hw _ (List.mem_of_getElem? (i := 18) rfl))) Via.refl e7 F_foundIn_r0_7 E_r0_7 (Or.inr ⟨(hw _ (List.mem_of_getElem? (i := 19) rfl)), rfl, hnm⟩) (hw _ (List.mem_of_getElem? (i := 1) rfl)) (ty := (.array .int)) (by decide) rfl rfl (g := (mkF m 32 #[.val (.ref r0), .val (.ref r1), .val (.ref r2)] [(.ref b7), (.ref r0)])) rfl rfl (hb hby d1_32)
  have E_r0_8 := E_r0_7.wr W8
  have F_search_r0_8 := F_search_r0_7.other W8 (Or.inr (own_sn151 hw))
  have F_runs_r0_8 := F_runs_r0_7.other W8 (Or.inr (own_sn152 hw))
  have F_numbers_r0_8 := F_numbers_r0_7.other W8 (Or.inr (own_sn153 hw))
  have F_elements_r0_8 := F_elements_r0_7.other W8 (Or.inr (own_sn154 hw))
  have F_next_r0_8 := F_next_r0_7.other W8 (Or.inr (own_sn155 hw))
  have F_found_r0_8 := F_found_r0_7.other W8 (Or.inr (own_sn156 hw))
  have F_bucketShift_r0_8 := F_bucketShift_r0_7.other W8 (Or.inr (own_sn157 hw))
  have F_bucketStart_r0_8 := F_bucketStart_r0_7.other W8 (Or.inr (own_sn158 hw))
  have F_foundCount_r0_8 := F_foundCount_r0_7.other W8 (Or.inr (own_sn159 hw))
  have F_firstOnly_r0_8 := F_firstOnly_r0_7.other W8 (Or.inr (own_sn160 hw))
  have F_forRuns_r0_8 := F_forRuns_r0_7.other W8 (Or.inr (own_sn161 hw))
  have F_runsLength_r0_8 := F_runsLength_r0_7.other W8 (Or.inr (own_sn162 hw))
  have A_r1_8 := A_r1_7.other W8 (Ne.symm (own_ne_arf E_r0_7 (hw _ (List.mem_of_getElem? (i := 1) rfl)) A_r1_7))
  have A_b3_8 := A_b3_7.other W8 (Ne.symm ne_r0_b3)
  have A_b7_8 := A_b7_7.other W8 (Ne.symm ne_r0_b7)
  have K8 := K7.wr W8 (Or.inl (List.mem_of_getElem? (i := 0) rfl))
  have N8 := Fr.snoc X8 N6 ge_r0
  have Z8 : n0 ≤ h8.size := Nat.le_trans Z7 (Keep.of_wr W8).1
  have F_foundIn_r0_8 := F_foundIn_r0_7.same W8
  refine own_go (fun tg k => st8 tg k) ?_
  show own_Fin _ _ _ _ _ _ _ (T8.setTop (mkF m 35 #[.val (.ref r0), .val (.ref r1), .val (.ref r2)] []))
  refine own_go (fun _ k => XS.aloadN X8.here hx rfl (hb hby d1_35) rfl rfl k) ?_
  refine own_go (fun _ k => XS.aloadN X8.here hx rfl (hb hby d1_36) rfl rfl k) ?_
  refine own_go (fun tg k => own_alen X8 hx hZ e8 A_r1_8 (g := (mkF m 37 #[.val (.ref r0), .val (.ref r1), .val (.ref r2)] [(.ref r1), (.ref r0)])) rfl rfl (hb hby d1_37) tg k) ?_
  show own_Fin _ _ _ _ _ _ _ (T8.setTop (mkF m 38 #[.val (.ref r0), .val (.ref r1), .val (.ref r2)] [(.int (3 : Int32)), (.ref r0)]))
  obtain ⟨T9, h9, k9, X9, e9, E9, A9, st9⟩ := newP X8 hx hZ (hw _ (List.mem_of_getElem? (i := 3) rfl)) e8 (g := (mkF m 38 #[.val (.ref r0), .val (.ref r1), .val (.ref r2)] [(.int (3 : Int32)), (.ref r0)])) rfl (hb hby d1_38) rfl (by decide) (cap := 3) (by decide) (by decide) (by decide) (by decide)
  obtain ⟨b9, g9⟩ : ∃ z, z = h8.size := ⟨_, rfl⟩
  rw [← g9] at A9 st9
  have ne_r0_b9 : r0 ≠ b9 := Nat.ne_of_lt (Nat.lt_of_lt_of_le E_r0_8.lt (Nat.le_of_eq g9.symm))
  have ne_r1_b9 : r1 ≠ b9 := Nat.ne_of_lt (Nat.lt_of_lt_of_le A_r1_8.lt (Nat.le_of_eq g9.symm))
  have ne_b3_b9 : b3 ≠ b9 := Nat.ne_of_lt (Nat.lt_of_lt_of_le A_b3_8.lt (Nat.le_of_eq g9.symm))
  have ne_b7_b9 : b7 ≠ b9 := Nat.ne_of_lt (Nat.lt_of_lt_of_le A_b7_8.lt (Nat.le_of_eq g9.symm))
  have ge_b9 : n0 ≤ b9 := Nat.le_trans Z8 (Nat.le_of_eq g9.symm)
  have sz_b9 : h0.size ≤ b9 := Nat.le_trans K8.1 (Nat.le_of_eq g9.symm)
  have E_r0_9 := E_r0_8.ext E9
  have F_search_r0_9 := F_search_r0_8.ext E9
  have F_runs_r0_9 := F_runs_r0_8.ext E9
  have F_numbers_r0_9 := F_numbers_r0_8.ext E9
  have F_elements_r0_9 := F_elements_r0_8.ext E9
  have F_foundIn_r0_9 := F_foundIn_r0_8.ext E9
  have F_next_r0_9 := F_next_r0_8.ext E9
  have F_found_r0_9 := F_found_r0_8.ext E9
  have F_bucketShift_r0_9 := F_bucketShift_r0_8.ext E9
  have F_bucketStart_r0_9 := F_bucketStart_r0_8.ext E9
  have F_foundCount_r0_9 := F_foundCount_r0_8.ext E9
  have F_firstOnly_r0_9 := F_firstOnly_r0_8.ext E9
  have F_forRuns_r0_9 := F_forRuns_r0_8.ext E9
  have F_runsLength_r0_9 := F_runsLength_r0_8.ext E9
  have A_r1_9 := A_r1_8.ext E9
  have A_b3_9 := A_b3_8.ext E9
  have A_b7_9 := A_b7_8.ext E9
  have K9 := K8.ext E9
  have Z9 : n0 ≤ h9.size := Nat.le_trans Z8 E9.1
  have A_b9_9 : own_Arf Z h9 b9 .int (3 : Int32) (fun i => .int ((fun _ => (0 : Int32)) i)) := own_Arf.new A9 (by decide)
  refine own_go (fun tg k => st9 tg k) ?_
  show own_Fin _ _ _ _ _ _ _ (T9.setTop (mkF m 40 #[.val (.ref r0), .val (.ref r1), .val (.ref r2)] [(.ref b9), (.ref r0)]))
  obtain ⟨T10, h10, X10, e10, W10, st10⟩ := putF X9 hx hZ hown (host := "") (Or.inl (hw _ (List.mem_of_getElem? (i := 20) rfl))) Via.refl e9 F_next_r0_9 E_r0_9 (Or.inr ⟨(hw _ (List.mem_of_getElem? (i := 21) rfl)), rfl, hnm⟩) (hw _ (List.mem_of_getElem? (i := 1) rfl)) (ty := (.array .int)) (by decide) rfl rfl (g := (mkF m 40 #[.val (.ref r0), .val (.ref r1), .val (.ref r2)] [(.ref b9), (.ref r0)])) rfl rfl (hb hby d1_40)
  have E_r0_10 := E_r0_9.wr W10
  have F_search_r0_10 := F_search_r0_9.other W10 (Or.inr (own_sn163 hw))
  have F_runs_r0_10 := F_runs_r0_9.other W10 (Or.inr (own_sn164 hw))
  have F_numbers_r0_10 := F_numbers_r0_9.other W10 (Or.inr (own_sn165 hw))
  have F_elements_r0_10 := F_elements_r0_9.other W10 (Or.inr (own_sn166 hw))
  have F_foundIn_r0_10 := F_foundIn_r0_9.other W10 (Or.inr (own_sn167 hw))
  have F_found_r0_10 := F_found_r0_9.other W10 (Or.inr (own_sn168 hw))
  have F_bucketShift_r0_10 := F_bucketShift_r0_9.other W10 (Or.inr (own_sn169 hw))
  have F_bucketStart_r0_10 := F_bucketStart_r0_9.other W10 (Or.inr (own_sn170 hw))
  have F_foundCount_r0_10 := F_foundCount_r0_9.other W10 (Or.inr (own_sn171 hw))
  have F_firstOnly_r0_10 := F_firstOnly_r0_9.other W10 (Or.inr (own_sn172 hw))
  have F_forRuns_r0_10 := F_forRuns_r0_9.other W10 (Or.inr (own_sn173 hw))
  have F_runsLength_r0_10 := F_runsLength_r0_9.other W10 (Or.inr (own_sn174 hw))
  have A_r1_10 := A_r1_9.other W10 (Ne.symm (own_ne_arf E_r0_9 (hw _ (List.mem_of_getElem? (i := 1) rfl)) A_r1_9))
  have A_b3_10 := A_b3_9.other W10 (Ne.symm ne_r0_b3)
  have A_b7_10 := A_b7_9.other W10 (Ne.symm ne_r0_b7)
  have A_b9_10 := A_b9_9.other W10 (Ne.symm ne_r0_b9)
  have K10 := K9.wr W10 (Or.inl (List.mem_of_getElem? (i := 0) rfl))
  have N10 := Fr.snoc X10 N8 ge_r0
  have Z10 : n0 ≤ h10.size := Nat.le_trans Z9 (Keep.of_wr W10).1
  have F_next_r0_10 := F_next_r0_9.same W10
  refine own_go (fun tg k => st10 tg k) ?_
  show own_Fin _ _ _ _ _ _ _ (T10.setTop (mkF m 43 #[.val (.ref r0), .val (.ref r1), .val (.ref r2)] []))
  refine own_go (fun _ k => XS.aloadN X10.here hx rfl (hb hby d1_43) rfl rfl k) ?_
  refine own_go (fun _ k => XS.aloadN X10.here hx rfl (hb hby d1_44) rfl rfl k) ?_
  refine own_go (fun tg k => own_alen X10 hx hZ e10 A_r1_10 (g := (mkF m 45 #[.val (.ref r0), .val (.ref r1), .val (.ref r2)] [(.ref r1), (.ref r0)])) rfl rfl (hb hby d1_45) tg k) ?_
  show own_Fin _ _ _ _ _ _ _ (T10.setTop (mkF m 46 #[.val (.ref r0), .val (.ref r1), .val (.ref r2)] [(.int (3 : Int32)), (.ref r0)]))
  obtain ⟨T11, h11, k11, X11, e11, E11, A11, st11⟩ := newP X10 hx hZ (hw _ (List.mem_of_getElem? (i := 3) rfl)) e10 (g := (mkF m 46 #[.val (.ref r0), .val (.ref r1), .val (.ref r2)] [(.int (3 : Int32)), (.ref r0)])) rfl (hb hby d1_46) rfl (by decide) (cap := 3) (by decide) (by decide) (by decide) (by decide)
  obtain ⟨b11, g11⟩ : ∃ z, z = h10.size := ⟨_, rfl⟩
  rw [← g11] at A11 st11
  have ne_r0_b11 : r0 ≠ b11 := Nat.ne_of_lt (Nat.lt_of_lt_of_le E_r0_10.lt (Nat.le_of_eq g11.symm))
  have ne_r1_b11 : r1 ≠ b11 := Nat.ne_of_lt (Nat.lt_of_lt_of_le A_r1_10.lt (Nat.le_of_eq g11.symm))
  have ne_b3_b11 : b3 ≠ b11 := Nat.ne_of_lt (Nat.lt_of_lt_of_le A_b3_10.lt (Nat.le_of_eq g11.symm))
  have ne_b7_b11 : b7 ≠ b11 := Nat.ne_of_lt (Nat.lt_of_lt_of_le A_b7_10.lt (Nat.le_of_eq g11.symm))
  have ne_b9_b11 : b9 ≠ b11 := Nat.ne_of_lt (Nat.lt_of_lt_of_le A_b9_10.lt (Nat.le_of_eq g11.symm))
  have ge_b11 : n0 ≤ b11 := Nat.le_trans Z10 (Nat.le_of_eq g11.symm)
  have sz_b11 : h0.size ≤ b11 := Nat.le_trans K10.1 (Nat.le_of_eq g11.symm)
  have E_r0_11 := E_r0_10.ext E11
  have F_search_r0_11 := F_search_r0_10.ext E11
  have F_runs_r0_11 := F_runs_r0_10.ext E11
  have F_numbers_r0_11 := F_numbers_r0_10.ext E11
  have F_elements_r0_11 := F_elements_r0_10.ext E11
  have F_foundIn_r0_11 := F_foundIn_r0_10.ext E11
  have F_next_r0_11 := F_next_r0_10.ext E11
  have F_found_r0_11 := F_found_r0_10.ext E11
  have F_bucketShift_r0_11 := F_bucketShift_r0_10.ext E11
  have F_bucketStart_r0_11 := F_bucketStart_r0_10.ext E11
  have F_foundCount_r0_11 := F_foundCount_r0_10.ext E11
  have F_firstOnly_r0_11 := F_firstOnly_r0_10.ext E11
  have F_forRuns_r0_11 := F_forRuns_r0_10.ext E11
  have F_runsLength_r0_11 := F_runsLength_r0_10.ext E11
  have A_r1_11 := A_r1_10.ext E11
  have A_b3_11 := A_b3_10.ext E11
  have A_b7_11 := A_b7_10.ext E11
  have A_b9_11 := A_b9_10.ext E11
  have K11 := K10.ext E11
  have Z11 : n0 ≤ h11.size := Nat.le_trans Z10 E11.1
  have A_b11_11 : own_Arf Z h11 b11 .int (3 : Int32) (fun i => .int ((fun _ => (0 : Int32)) i)) := own_Arf.new A11 (by decide)
  refine own_go (fun tg k => st11 tg k) ?_
  show own_Fin _ _ _ _ _ _ _ (T11.setTop (mkF m 48 #[.val (.ref r0), .val (.ref r1), .val (.ref r2)] [(.ref b11), (.ref r0)]))
  obtain ⟨T12, h12, X12, e12, W12, st12⟩ := putF X11 hx hZ hown (host := "") (Or.inl (hw _ (List.mem_of_getElem? (i := 22) rfl))) Via.refl e11 F_found_r0_11 E_r0_11 (Or.inr ⟨(hw _ (List.mem_of_getElem? (i := 23) rfl)), rfl, hnm⟩) (hw _ (List.mem_of_getElem? (i := 1) rfl)) (ty := (.array .int)) (by decide) rfl rfl (g := (mkF m 48 #[.val (.ref r0), .val (.ref r1), .val (.ref r2)] [(.ref b11), (.ref r0)])) rfl rfl (hb hby d1_48)
  have E_r0_12 := E_r0_11.wr W12
  have F_search_r0_12 := F_search_r0_11.other W12 (Or.inr (own_sn175 hw))
  have F_runs_r0_12 := F_runs_r0_11.other W12 (Or.inr (own_sn176 hw))
  have F_numbers_r0_12 := F_numbers_r0_11.other W12 (Or.inr (own_sn177 hw))
  have F_elements_r0_12 := F_elements_r0_11.other W12 (Or.inr (own_sn178 hw))
  have F_foundIn_r0_12 := F_foundIn_r0_11.other W12 (Or.inr (own_sn179 hw))
  have F_next_r0_12 := F_next_r0_11.other W12 (Or.inr (own_sn180 hw))
  have F_bucketShift_r0_12 := F_bucketShift_r0_11.other W12 (Or.inr (own_sn181 hw))
  have F_bucketStart_r0_12 := F_bucketStart_r0_11.other W12 (Or.inr (own_sn182 hw))
  have F_foundCount_r0_12 := F_foundCount_r0_11.other W12 (Or.inr (own_sn183 hw))
  have F_firstOnly_r0_12 := F_firstOnly_r0_11.other W12 (Or.inr (own_sn184 hw))
  have F_forRuns_r0_12 := F_forRuns_r0_11.other W12 (Or.inr (own_sn185 hw))
  have F_runsLength_r0_12 := F_runsLength_r0_11.other W12 (Or.inr (own_sn186 hw))
  have A_r1_12 := A_r1_11.other W12 (Ne.symm (own_ne_arf E_r0_11 (hw _ (List.mem_of_getElem? (i := 1) rfl)) A_r1_11))
  have A_b3_12 := A_b3_11.other W12 (Ne.symm ne_r0_b3)
  have A_b7_12 := A_b7_11.other W12 (Ne.symm ne_r0_b7)
  have A_b9_12 := A_b9_11.other W12 (Ne.symm ne_r0_b9)
  have A_b11_12 := A_b11_11.other W12 (Ne.symm ne_r0_b11)
  have K12 := K11.wr W12 (Or.inl (List.mem_of_getElem? (i := 0) rfl))
  have N12 := Fr.snoc X12 N10 ge_r0
  have Z12 : n0 ≤ h12.size := Nat.le_trans Z11 (Keep.of_wr W12).1
  have F_found_r0_12 := F_found_r0_11.same W12
  refine own_go (fun tg k => st12 tg k) ?_
  show own_Fin _ _ _ _ _ _ _ (T12.setTop (mkF m 51 #[.val (.ref r0), .val (.ref r1), .val (.ref r2)] []))
  refine own_go (fun _ k => XS.aloadN X12.here hx rfl (hb hby d1_51) rfl rfl k) ?_
  refine own_go (fun _ k => XS.aloadN X12.here hx rfl (hb hby d1_52) rfl rfl k) ?_
  obtain ⟨_, _, ⟨T13, L13, k13, n13⟩, -, X13, ⟨Lc13, hQ13, l13, y13, z13⟩, st13⟩ := Jvm.LawKit.callS X12 hx (y := (⟨"com/example/reachability/reachability/CandidateList", "bucketShift", "([I)I"⟩ : MethodName)) hown (mvT hZ (hw _ (List.mem_of_getElem? (i := 24) rfl))) (mvT hZ (hw _ (List.mem_of_getElem? (i := 25) rfl))) (mvT hZ (hw _ (List.mem_of_getElem? (i := 2) rfl))) (mvT hZ (hw _ (List.mem_of_getElem? (i := 26) rfl))) (by decide) (backOf (W := 1) (rm3 l Z a0 hw [] r1 xg h12 n0 Z12 A_r1_12 (own_srt1 hp)) hZ (hw _ (List.mem_of_getElem? (i := 26) rfl)) (hw _ (List.mem_of_getElem? (i := 2) rfl)) (by decide) (by decide)) (g := (mkF m 53 #[.val (.ref r0), .val (.ref r1), .val (.ref r2)] [(.ref r1), (.ref r0)])) rfl (by rw [hml]; rfl) (argsL := [(.ref r1)]) (rest := [(.ref r0)]) (lenOf own_pd187 rfl) rfl (by show 2 * 0 + _ ≤ _; exact Nat.le_of_eq rfl) (hb hby d1_53) (fun _ _ => ⟨rfl, e12, (by decide : 4 + 0 ≤ _), (by decide : 17 + 0 ≤ _)⟩)
  dsimp only [Pt.U, Pt.locs, Pt.cells, Pt.slots] at X13 l13 y13 z13 st13 hQ13
  replace y13 : 4 = k13 := y13.symm
  replace z13 : 17 = n13 := z13.symm
  subst y13 z13
  obtain ⟨rfl, N13q, e13⟩ := hQ13
  have N13 : Fr n0 L13 := by rw [l13]; exact Fr.app N12 N13q
  refine own_go (fun tg k => st13 tg k) ?_
  show own_Fin _ _ _ _ _ _ _ (T13.setTop (mkF m 56 #[.val (.ref r0), .val (.ref r1), .val (.ref r2)] [(.int (own_f3 xg)), (.ref r0)]))
  obtain ⟨T14, h14, X14, e14, W14, st14⟩ := putF X13 hx hZ hown (host := "") (Or.inl (hw _ (List.mem_of_getElem? (i := 31) rfl))) Via.refl e13 F_bucketShift_r0_12 E_r0_12 (Or.inr ⟨(hw _ (List.mem_of_getElem? (i := 32) rfl)), rfl, hnm⟩) (hw _ (List.mem_of_getElem? (i := 1) rfl)) (ty := .int) (by decide) rfl rfl (g := (mkF m 56 #[.val (.ref r0), .val (.ref r1), .val (.ref r2)] [(.int (own_f3 xg)), (.ref r0)])) rfl rfl (hb hby d1_56)
  have E_r0_14 := E_r0_12.wr W14
  have F_search_r0_14 := F_search_r0_12.other W14 (Or.inr (own_sn188 hw))
  have F_runs_r0_14 := F_runs_r0_12.other W14 (Or.inr (own_sn189 hw))
  have F_numbers_r0_14 := F_numbers_r0_12.other W14 (Or.inr (own_sn190 hw))
  have F_elements_r0_14 := F_elements_r0_12.other W14 (Or.inr (own_sn191 hw))
  have F_foundIn_r0_14 := F_foundIn_r0_12.other W14 (Or.inr (own_sn192 hw))
  have F_next_r0_14 := F_next_r0_12.other W14 (Or.inr (own_sn193 hw))
  have F_found_r0_14 := F_found_r0_12.other W14 (Or.inr (own_sn194 hw))
  have F_bucketStart_r0_14 := F_bucketStart_r0_12.other W14 (Or.inr (own_sn195 hw))
  have F_foundCount_r0_14 := F_foundCount_r0_12.other W14 (Or.inr (own_sn196 hw))
  have F_firstOnly_r0_14 := F_firstOnly_r0_12.other W14 (Or.inr (own_sn197 hw))
  have F_forRuns_r0_14 := F_forRuns_r0_12.other W14 (Or.inr (own_sn198 hw))
  have F_runsLength_r0_14 := F_runsLength_r0_12.other W14 (Or.inr (own_sn199 hw))
  have A_r1_14 := A_r1_12.other W14 (Ne.symm (own_ne_arf E_r0_12 (hw _ (List.mem_of_getElem? (i := 1) rfl)) A_r1_12))
  have A_b3_14 := A_b3_12.other W14 (Ne.symm ne_r0_b3)
  have A_b7_14 := A_b7_12.other W14 (Ne.symm ne_r0_b7)
  have A_b9_14 := A_b9_12.other W14 (Ne.symm ne_r0_b9)
  have A_b11_14 := A_b11_12.other W14 (Ne.symm ne_r0_b11)
  have K14 := K12.wr W14 (Or.inl (List.mem_of_getElem? (i := 0) rfl))
  have N14 := Fr.snoc X14 N13 ge_r0
  have Z14 : n0 ≤ h14.size := Nat.le_trans Z12 (Keep.of_wr W14).1
  have F_bucketShift_r0_14 := F_bucketShift_r0_12.same W14
  refine own_go (fun tg k => st14 tg k) ?_
  show own_Fin _ _ _ _ _ _ _ (T14.setTop (mkF m 59 #[.val (.ref r0), .val (.ref r1), .val (.ref r2)] []))
  refine own_go (fun _ k => XS.aloadN X14.here hx rfl (hb hby d1_59) rfl rfl k) ?_
  refine own_go (fun _ k => XS.aloadN X14.here hx rfl (hb hby d1_60) rfl rfl k) ?_
  refine own_go (fun _ k => XS.aloadN X14.here hx rfl (hb hby d1_61) rfl rfl k) ?_
  obtain ⟨T15, X15, e15, st15⟩ := getF X14 hx hZ hown (host := "") (Or.inl (hw _ (List.mem_of_getElem? (i := 31) rfl))) Via.refl e14 F_bucketShift_r0_14 (g := (mkF m 62 #[.val (.ref r0), .val (.ref r1), .val (.ref r2)] [(.ref r0), (.ref r1), (.ref r0)])) rfl rfl (hb hby d1_62)
  refine own_go (fun tg k => st15 tg k) ?_
  show own_Fin _ _ _ _ _ _ _ (T15.setTop (mkF m 65 #[.val (.ref r0), .val (.ref r1), .val (.ref r2)] [(.int (own_f3 xg)), (.ref r1), (.ref r0)]))
  obtain ⟨_, _, ⟨T16, L16, k16, n16⟩, -, X16, ⟨Lc16, hQ16, l16, y16, z16⟩, st16⟩ := Jvm.LawKit.callS X15 hx (y := (⟨"com/example/reachability/reachability/CandidateList", "bucketStarts", "([II)[I"⟩ : MethodName)) hown (mvT hZ (hw _ (List.mem_of_getElem? (i := 33) rfl))) (mvT hZ (hw _ (List.mem_of_getElem? (i := 34) rfl))) (mvT hZ (hw _ (List.mem_of_getElem? (i := 2) rfl))) (mvT hZ (hw _ (List.mem_of_getElem? (i := 35) rfl))) (by decide) (backOf (W := 1) (rm5 l Z a0 hw [] r1 (own_f3 xg) xg h14 n0 Z14 A_r1_14 (own_srt2 hp)) hZ (hw _ (List.mem_of_getElem? (i := 35) rfl)) (hw _ (List.mem_of_getElem? (i := 2) rfl)) (by decide) (by decide)) (g := (mkF m 65 #[.val (.ref r0), .val (.ref r1), .val (.ref r2)] [(.int (own_f3 xg)), (.ref r1), (.ref r0)])) rfl (by rw [hml]; rfl) (argsL := [(.ref r1), (.int (own_f3 xg))]) (rest := [(.ref r0)]) (lenOf own_pd200 rfl) rfl (by show 2 * 0 + _ ≤ _; exact Nat.le_of_eq rfl) (hb hby d1_65) (fun _ _ => ⟨rfl, e15, (by decide : 4 + 1 ≤ _), (by decide : 17 + 4 ≤ _)⟩)
  dsimp only [Pt.U, Pt.locs, Pt.cells, Pt.slots] at X16 l16 y16 z16 st16 hQ16
  replace y16 : 5 = k16 := y16.symm
  replace z16 : 21 = n16 := z16.symm
  subst y16 z16
  obtain ⟨b16rb, gB16, rfl, N16q, Kq16, szq_b16rb, A_b16rb_16, Pq16_1⟩ := hQ16
  have N16 : Fr n0 L16 := by rw [l16]; exact Fr.app N14 N16q
  have ne_r0_b16rb : r0 ≠ b16rb := Nat.ne_of_lt (Nat.lt_of_lt_of_le E_r0_14.lt szq_b16rb)
  have ne_r1_b16rb : r1 ≠ b16rb := Nat.ne_of_lt (Nat.lt_of_lt_of_le A_r1_14.lt szq_b16rb)
  have ne_b3_b16rb : b3 ≠ b16rb := Nat.ne_of_lt (Nat.lt_of_lt_of_le A_b3_14.lt szq_b16rb)
  have ne_b7_b16rb : b7 ≠ b16rb := Nat.ne_of_lt (Nat.lt_of_lt_of_le A_b7_14.lt szq_b16rb)
  have ne_b9_b16rb : b9 ≠ b16rb := Nat.ne_of_lt (Nat.lt_of_lt_of_le A_b9_14.lt szq_b16rb)
  have ne_b11_b16rb : b11 ≠ b16rb := Nat.ne_of_lt (Nat.lt_of_lt_of_le A_b11_14.lt szq_b16rb)
  have ge_b16rb : n0 ≤ b16rb := Nat.le_trans Z14 szq_b16rb
  have sz_b16rb : h0.size ≤ b16rb := Nat.le_trans K14.1 szq_b16rb
  have E_r0_16 := E_r0_14.keep Kq16
  have F_search_r0_16 := F_search_r0_14.keep Kq16 nin0
  have F_runs_r0_16 := F_runs_r0_14.keep Kq16 nin0
  have F_numbers_r0_16 := F_numbers_r0_14.keep Kq16 nin0
  have F_elements_r0_16 := F_elements_r0_14.keep Kq16 nin0
  have F_foundIn_r0_16 := F_foundIn_r0_14.keep Kq16 nin0
  have F_next_r0_16 := F_next_r0_14.keep Kq16 nin0
  have F_found_r0_16 := F_found_r0_14.keep Kq16 nin0
  have F_bucketShift_r0_16 := F_bucketShift_r0_14.keep Kq16 nin0
  have F_bucketStart_r0_16 := F_bucketStart_r0_14.keep Kq16 nin0
  have F_foundCount_r0_16 := F_foundCount_r0_14.keep Kq16 nin0
  have F_firstOnly_r0_16 := F_firstOnly_r0_14.keep Kq16 nin0
  have F_forRuns_r0_16 := F_forRuns_r0_14.keep Kq16 nin0
  have F_runsLength_r0_16 := F_runsLength_r0_14.keep Kq16 nin0
  have A_r1_16 := A_r1_14.keep Kq16 nin0
  have A_b3_16 := A_b3_14.keep Kq16 nin0
  have A_b7_16 := A_b7_14.keep Kq16 nin0
  have A_b9_16 := A_b9_14.keep Kq16 nin0
  have A_b11_16 := A_b11_14.keep Kq16 nin0
  have K16 := Keep.trans K14 Kq16 all0
  have Z16 : n0 ≤ T16.heap.size := Nat.le_trans Z14 Kq16.1
  refine own_go (fun tg k => st16 tg k) ?_
  show own_Fin _ _ _ _ _ _ _ (T16.setTop (mkF m 68 #[.val (.ref r0), .val (.ref r1), .val (.ref r2)] [(.ref b16rb), (.ref r0)]))
  obtain ⟨T17, h17, X17, e17, W17, st17⟩ := putF X16 hx hZ hown (host := "") (Or.inl (hw _ (List.mem_of_getElem? (i := 36) rfl))) Via.refl rfl F_bucketStart_r0_16 E_r0_16 (Or.inr ⟨(hw _ (List.mem_of_getElem? (i := 37) rfl)), rfl, hnm⟩) (hw _ (List.mem_of_getElem? (i := 1) rfl)) (ty := (.array .int)) (by decide) rfl rfl (g := (mkF m 68 #[.val (.ref r0), .val (.ref r1), .val (.ref r2)] [(.ref b16rb), (.ref r0)])) rfl rfl (hb hby d1_68)
  have E_r0_17 := E_r0_16.wr W17
  have F_search_r0_17 := F_search_r0_16.other W17 (Or.inr (own_sn201 hw))
  have F_runs_r0_17 := F_runs_r0_16.other W17 (Or.inr (own_sn202 hw))
  have F_numbers_r0_17 := F_numbers_r0_16.other W17 (Or.inr (own_sn203 hw))
  have F_elements_r0_17 := F_elements_r0_16.other W17 (Or.inr (own_sn204 hw))
  have F_foundIn_r0_17 := F_foundIn_r0_16.other W17 (Or.inr (own_sn205 hw))
  have F_next_r0_17 := F_next_r0_16.other W17 (Or.inr (own_sn206 hw))
  have F_found_r0_17 := F_found_r0_16.other W17 (Or.inr (own_sn207 hw))
  have F_bucketShift_r0_17 := F_bucketShift_r0_16.other W17 (Or.inr (own_sn208 hw))
  have F_foundCount_r0_17 := F_foundCount_r0_16.other W17 (Or.inr (own_sn209 hw))
  have F_firstOnly_r0_17 := F_firstOnly_r0_16.other W17 (Or.inr (own_sn210 hw))
  have F_forRuns_r0_17 := F_forRuns_r0_16.other W17 (Or.inr (own_sn211 hw))
  have F_runsLength_r0_17 := F_runsLength_r0_16.other W17 (Or.inr (own_sn212 hw))
  have A_r1_17 := A_r1_16.other W17 (Ne.symm (own_ne_arf E_r0_16 (hw _ (List.mem_of_getElem? (i := 1) rfl)) A_r1_16))
  have A_b3_17 := A_b3_16.other W17 (Ne.symm ne_r0_b3)
  have A_b7_17 := A_b7_16.other W17 (Ne.symm ne_r0_b7)
  have A_b9_17 := A_b9_16.other W17 (Ne.symm ne_r0_b9)
  have A_b11_17 := A_b11_16.other W17 (Ne.symm ne_r0_b11)
  have A_b16rb_17 := A_b16rb_16.other W17 (Ne.symm ne_r0_b16rb)
  have K17 := K16.wr W17 (Or.inl (List.mem_of_getElem? (i := 0) rfl))
  have N17 := Fr.snoc X17 N16 ge_r0
  have Z17 : n0 ≤ h17.size := Nat.le_trans Z16 (Keep.of_wr W17).1
  have F_bucketStart_r0_17 := F_bucketStart_r0_16.same W17
  refine own_go (fun tg k => st17 tg k) ?_
  show own_Fin _ _ _ _ _ _ _ (T17.setTop (mkF m 71 #[.val (.ref r0), .val (.ref r1), .val (.ref r2)] []))
  refine own_retV X17 hx hlk Bd.returns (hb hby d1_71) (Nat.le_of_ble_eq_true rfl) (Nat.le_of_ble_eq_true rfl) ?_
  rw [e17]
  refine ⟨b7, b9, b11, b16rb, gB16, rfl, N17, K17, sz_b7, sz_b9, sz_b11, sz_b16rb, E_r0_17, ?_, ?_, ?_, ?_, ?_, ?_, ?_, ?_, ?_, ?_, ?_, ?_, ?_, ?_, ?_, ?_, ne_b7_b9, ne_b7_b11, ne_b7_b16rb, ne_b9_b11, ne_b9_b16rb, ne_b11_b16rb, ?_⟩
  · (exact F_search_r0_17)
  · (exact F_numbers_r0_17)
  · (exact F_elements_r0_17)
  · (exact F_foundIn_r0_17)
  · (exact F_next_r0_17)
  · (exact F_found_r0_17)
  · (exact F_bucketShift_r0_17)
  · (exact F_bucketStart_r0_17)
  · (exact F_foundCount_r0_17)
  · (exact F_firstOnly_r0_17)
  · (exact F_forRuns_r0_17)
  · (exact F_runsLength_r0_17)
  · (exact A_b7_17)
  · (exact A_b9_17)
  · (exact A_b11_17)
  · (exact A_b16rb_17)
  · (exact Pq16_1)
def own_fal (g : Nat → Int32) (v : Int32) : Nat → Int32 → Int32 → Int32
  | 0, lo, _ => lo
  | k + 1, lo, hi => if lo < hi then (if g (own_iushr (lo + hi) (1 : Int32)).toNatClampNeg < v then own_fal g v k ((own_iushr (lo + hi) (1 : Int32)) + (1 : Int32)) hi else own_fal g v k lo (own_iushr (lo + hi) (1 : Int32))) else lo
def own_falE (g : Nat → Int32) (v : Int32) (lo hi : Int32) : Int32 := own_fal g v (hi.toInt - lo.toInt).toNat lo hi
theorem own_midv {lo hi : Int32} (h0 : ¬ lo < (0 : Int32)) (h : lo < hi) : (own_iushr (lo + hi) (1 : Int32)).toInt = (lo.toInt + hi.toInt) / 2 ∧ ((own_iushr (lo + hi) (1 : Int32)) + (1 : Int32)).toInt = (lo.toInt + hi.toInt) / 2 + 1 := by
  rw [Int32.lt_iff_toInt_lt, show (0 : Int32).toInt = 0 from by decide] at h0
  rw [Int32.lt_iff_toInt_lt] at h
  have a := c_iadd lo hi
  have b : (own_iushr (lo + hi) (1 : Int32)).toInt = ((lo + hi).toInt % 4294967296) / (2 ^ 1 : Nat) := c_iushr (lo + hi) 1 1 (by decide) (by decide)
  rw [show ((2 ^ 1 : Nat) : Int) = 2 from by decide] at b
  have r1 := rng32 lo; have r2 := rng32 hi; have r3 := rng32 (lo + hi)
  have c := c_iadd (own_iushr (lo + hi) (1 : Int32)) 1
  have r4 := rng32 (own_iushr (lo + hi) (1 : Int32) + 1)
  rw [show (1 : Int32).toInt = 1 from by decide] at c
  omega
theorem own_fuel (g : Nat → Int32) (v : Int32) : ∀ (n k : Nat) (lo hi : Int32), ¬ lo < (0 : Int32) → (hi.toInt - lo.toInt).toNat ≤ n → n ≤ k → own_fal g v k lo hi = own_fal g v n lo hi := by
  intro n
  induction n with
  | zero =>
    intro k lo hi h0 h1 h2
    have : ¬ lo < hi := by rw [Int32.lt_iff_toInt_lt]; omega
    cases k with
    | zero => rfl
    | succ k => show (if lo < hi then _ else lo) = lo; rw [if_neg this]
  | succ n ih =>
    intro k lo hi h0 h1 h2
    obtain ⟨k, rfl⟩ : ∃ j, k = j + 1 := ⟨k - 1, by omega⟩
    show (if lo < hi then _ else lo) = (if lo < hi then _ else lo)
    by_cases h : lo < hi
    · rw [if_pos h, if_pos h]
      obtain ⟨m1, m2⟩ := own_midv h0 h
      have h0' := h0
      rw [Int32.lt_iff_toInt_lt, show (0 : Int32).toInt = 0 from by decide] at h0'
      have h' := h
      rw [Int32.lt_iff_toInt_lt] at h'
      rw [ih k _ hi (by rw [Int32.lt_iff_toInt_lt, show (0 : Int32).toInt = 0 from by decide]; omega) (by omega) (by omega), ih k lo _ h0 (by omega) (by omega)]
    · rw [if_neg h, if_neg h]
theorem own_fal0 {g : Nat → Int32} {v lo hi : Int32} (h : ¬ lo < hi) : own_falE g v lo hi = lo := by
  unfold own_falE
  cases (hi.toInt - lo.toInt).toNat with
  | zero => rfl
  | succ k => show (if lo < hi then _ else lo) = lo; rw [if_neg h]
theorem own_fal1 {g : Nat → Int32} {v lo hi : Int32} (h0 : ¬ lo < (0 : Int32)) (h : lo < hi) :
    own_falE g v lo hi = if g (own_iushr (lo + hi) (1 : Int32)).toNatClampNeg < v then own_falE g v ((own_iushr (lo + hi) (1 : Int32)) + (1 : Int32)) hi else own_falE g v lo (own_iushr (lo + hi) (1 : Int32)) := by
  obtain ⟨m1, m2⟩ := own_midv h0 h
  have h0' := h0
  rw [Int32.lt_iff_toInt_lt, show (0 : Int32).toInt = 0 from by decide] at h0'
  have h' := h
  rw [Int32.lt_iff_toInt_lt] at h'
  unfold own_falE
  obtain ⟨n, e⟩ : ∃ n, (hi.toInt - lo.toInt).toNat = n + 1 := ⟨(hi.toInt - lo.toInt).toNat - 1, by omega⟩
  rw [e]
  show (if lo < hi then _ else lo) = _
  rw [if_pos h, own_fuel g v (hi.toInt - ((own_iushr (lo + hi) (1 : Int32)) + (1 : Int32)).toInt).toNat n _ hi (by rw [Int32.lt_iff_toInt_lt, show (0 : Int32).toInt = 0 from by decide]; omega) (by omega) (by omega),
    own_fuel g v ((own_iushr (lo + hi) (1 : Int32)).toInt - lo.toInt).toNat n lo _ h0 (by omega) (by omega)]
theorem own_mid {lo hi : Int32} (h0 : ¬ lo < (0 : Int32)) (h : lo < hi) : ¬ (own_iushr (lo + hi) (1 : Int32)) < 0 ∧ (own_iushr (lo + hi) (1 : Int32)) < hi ∧ (hi.toInt - ((own_iushr (lo + hi) (1 : Int32)) + (1 : Int32)).toInt).toNat < (hi.toInt - lo.toInt).toNat ∧ ((own_iushr (lo + hi) (1 : Int32)).toInt - lo.toInt).toNat < (hi.toInt - lo.toInt).toNat := by
  obtain ⟨m1, m2⟩ := own_midv h0 h
  rw [Int32.lt_iff_toInt_lt, show (0 : Int32).toInt = 0 from by decide] at h0
  rw [Int32.lt_iff_toInt_lt] at h
  simp only [Int32.lt_iff_toInt_lt, show (0 : Int32).toInt = 0 from by decide]
  omega
theorem own_fb1 {lo hi n : Int32} (q : ¬ lo < (0 : Int32) ∧ hi ≤ n) (h : lo < hi) : ¬ ((own_iushr (lo + hi) (1 : Int32)) + (1 : Int32)) < (0 : Int32) ∧ hi ≤ n := by
  obtain ⟨m1, m2⟩ := own_midv q.1 h
  refine ⟨?_, q.2⟩
  have h0 := q.1
  rw [Int32.lt_iff_toInt_lt, show (0 : Int32).toInt = 0 from by decide] at h0 ⊢
  rw [Int32.lt_iff_toInt_lt] at h
  omega
theorem own_fb2 {lo hi n : Int32} (q : ¬ lo < (0 : Int32) ∧ hi ≤ n) (h : lo < hi) : ¬ lo < (0 : Int32) ∧ (own_iushr (lo + hi) (1 : Int32)) ≤ n := by
  have m := (own_mid q.1 h).2.1
  have q2 := q.2
  refine ⟨q.1, ?_⟩
  rw [Int32.lt_iff_toInt_lt] at m
  rw [Int32.le_iff_toInt_le] at q2 ⊢
  omega
theorem own_fix {lo hi n : Int32} (q : ¬ lo < (0 : Int32) ∧ hi ≤ n) (h : lo < hi) : ¬ (own_iushr (lo + hi) (1 : Int32)) < 0 ∧ (own_iushr (lo + hi) (1 : Int32)) < n := by
  have m := own_mid q.1 h
  have q2 := q.2
  refine ⟨m.1, ?_⟩
  have m2 := m.2.1
  rw [Int32.lt_iff_toInt_lt] at m2 ⊢
  rw [Int32.le_iff_toInt_le] at q2
  omega
theorem own_ltix {i a b n : Int32} (q : ¬ a < (0 : Int32) ∧ b ≤ n) (h1 : ¬ i < a) (h2 : i < b) : ¬ i < 0 ∧ i < n := by
  simp only [Int32.lt_iff_toInt_lt, Int32.le_iff_toInt_le] at *
  omega

theorem d14_0 : decode prog_2_method_20_code 0 = .ok (.iload_n 1, 1) := by decide +kernel
theorem d14_1 : decode prog_2_method_20_code 1 = .ok (.istore 4, 2) := by decide +kernel
theorem d14_3 : decode prog_2_method_20_code 3 = .ok (.iload_n 2, 1) := by decide +kernel
theorem d14_4 : decode prog_2_method_20_code 4 = .ok (.istore 5, 2) := by decide +kernel
theorem d14_6 : decode prog_2_method_20_code 6 = .ok (.iload 4, 2) := by decide +kernel
theorem d14_8 : decode prog_2_method_20_code 8 = .ok (.iload 5, 2) := by decide +kernel
theorem d14_10 : decode prog_2_method_20_code 10 = .ok (.if_icmp .ge 36, 3) := by decide +kernel
theorem d14_13 : decode prog_2_method_20_code 13 = .ok (.iload 4, 2) := by decide +kernel
theorem d14_15 : decode prog_2_method_20_code 15 = .ok (.iload 5, 2) := by decide +kernel
theorem d14_17 : decode prog_2_method_20_code 17 = .ok (.iadd, 1) := by decide +kernel
theorem d14_18 : decode prog_2_method_20_code 18 = .ok (.iconst 1, 1) := by decide +kernel
theorem d14_19 : decode prog_2_method_20_code 19 = .ok (.iushr, 1) := by decide +kernel
theorem d14_20 : decode prog_2_method_20_code 20 = .ok (.istore 6, 2) := by decide +kernel
theorem d14_22 : decode prog_2_method_20_code 22 = .ok (.aload_n 0, 1) := by decide +kernel
theorem d14_23 : decode prog_2_method_20_code 23 = .ok (.iload 6, 2) := by decide +kernel
theorem d14_25 : decode prog_2_method_20_code 25 = .ok (.iaload, 1) := by decide +kernel
theorem d14_26 : decode prog_2_method_20_code 26 = .ok (.iload_n 3, 1) := by decide +kernel
theorem d14_27 : decode prog_2_method_20_code 27 = .ok (.if_icmp .ge 12, 3) := by decide +kernel
theorem d14_30 : decode prog_2_method_20_code 30 = .ok (.iload 6, 2) := by decide +kernel
theorem d14_32 : decode prog_2_method_20_code 32 = .ok (.iconst 1, 1) := by decide +kernel
theorem d14_33 : decode prog_2_method_20_code 33 = .ok (.iadd, 1) := by decide +kernel
theorem d14_34 : decode prog_2_method_20_code 34 = .ok (.istore 4, 2) := by decide +kernel
theorem d14_36 : decode prog_2_method_20_code 36 = .ok (.goto 7, 3) := by decide +kernel
theorem d14_39 : decode prog_2_method_20_code 39 = .ok (.iload 6, 2) := by decide +kernel
theorem d14_41 : decode prog_2_method_20_code 41 = .ok (.istore 5, 2) := by decide +kernel
theorem d14_43 : decode prog_2_method_20_code 43 = .ok (.goto (-37), 3) := by decide +kernel
theorem d14_46 : decode prog_2_method_20_code 46 = .ok (.iload 4, 2) := by decide +kernel
theorem d14_48 : decode prog_2_method_20_code 48 = .ok (.ireturn, 1) := by decide +kernel
theorem pn_14 : plainName "com/example/reachability/reachability/CandidateList" = true := by first | (simp [plainName, overriddenIn]; done) | decide +kernel
theorem ef_14 (m : MethodId) (r0 : Addr) (p1 : Int32) (p2 : Int32) (p3 : Int32) : entryFrame m #[(.ref r0), (.int p1), (.int p2), (.int p3)] 7 = mkF m 0 #[.val (.ref r0), .val (.int p1), .val (.int p2), .val (.int p3), .unset, .unset, .unset] [] := by first | (simp [entryFrame, mkF, argsToLocals, Value.category]; done) | rfl
def rm14_room : Room := { frames := 0, cells := 0, slots := 0, locals := 0 }
def Qrm14 (Z : State) (r0 : Addr) (p1 : Int32) (p2 : Int32) (p3 : Int32) (xg : Nat → Int32) (h0 : Heap) (n0 : Nat) (v : Option Value) (h : Heap) (L : List Loc) : Prop := v = some (.int (own_falE xg p3 p1 p2)) ∧ Fr n0 L ∧ h = h0
set_option maxRecDepth 65536 in
set_option maxHeartbeats 40000000 in
theorem rm14 (l : Launch) (Z : State) (a0 : Array Value) (hw : ∀ d ∈ tables_1, d.before a0 Z = true) (ws : List Jvm.Cond) (r0 : Addr) (p1 : Int32) (p2 : Int32) (p3 : Int32) (xg : Nat → Int32) (h0 : Heap) (n0 : Nat) (Z0 : n0 ≤ h0.size) (A_r0_0 : own_Arf Z h0 r0 .int (3 : Int32) (fun i => .int (xg i))) (hp : ¬ p1 < (0 : Int32) ∧ p2 ≤ (3 : Int32)) :
    MetFree l (⟨"com/example/reachability/reachability/CandidateList", "firstAtLeast", "([IIII)I"⟩ : MethodName) (head1 (Jvm.Cond.code (⟨"com/example/reachability/reachability/CandidateList", "firstAtLeast", "([IIII)I"⟩ : MethodName) prog_2_method_20_code 7 (some .int) :: ws) rm14_room) (fun a U => a = #[(.ref r0), (.int p1), (.int p2), (.int p3)] ∧ Z.Warmed39 U.vm ∧ U.heap = h0) (fun _ _ _ _ _ => True) (fun _ U o U' => ∃ v L, o = .returned v ∧ Qrm14 Z r0 p1 p2 p3 xg h0 n0 v U'.heap L ∧ FrameEnd U o U' L rm14_room.cells rm14_room.slots) := by
  refine MetFree.of_bodySF (plainFor_of_name pn_14) hisR ?_
  intro p e s m args below meth c s₁ Bd hml0 hP hK
  obtain ⟨rfl, hZ, hh⟩ := hP
  have hx := Bd.exec
  have hby := Bd.bytes
  have hml : c.maxLocals = 7 := hml0
  have hown : s.vm.findClass "com/example/reachability/reachability/CandidateList" = some m.cls := findClass_of_methodNamed Bd.named
  have hnm := (name_of_methodNamed Bd.named Bd.method).1
  have hlk : meth.locks = false := BodyLoose.notSynchronized Bd
  have X0 : Stand p l e rm14_room s m #[(.ref r0), (.int p1), (.int p2), (.int p3)] below meth c s₁ [] 0 0 := Stand.of_body Bd
  have e0 : s₁.heap = h0 := by rw [← hh, Bd.state]; rfl
  have N0 := Fr.nil n0
  show own_Fin p.tables e below s (Qrm14 Z r0 p1 p2 p3 xg h0 n0) rm14_room.cells rm14_room.slots (s₁.setTop (entryFrame m #[(.ref r0), (.int p1), (.int p2), (.int p3)] 7))
  rw [ef_14]
  show own_Fin _ _ _ _ _ _ _ (s₁.setTop (mkF m 0 #[.val (.ref r0), .val (.int p1), .val (.int p2), .val (.int p3), .unset, .unset, .unset] []))
  refine own_go (fun _ k => XS.iloadN X0.here hx rfl (hb hby d14_0) rfl k) ?_
  show own_Fin _ _ _ _ _ _ _ (s₁.setTop (mkF m 1 #[.val (.ref r0), .val (.int p1), .val (.int p2), .val (.int p3), .unset, .unset, .unset] [(.int p1)]))
  refine own_go (fun _ k => XS.istore X0.here hx rfl (hb hby d14_1) rfl (l' := #[.val (.ref r0), .val (.int p1), .val (.int p2), .val (.int p3), .val (.int p1), .unset, .unset]) rfl k) ?_
  show own_Fin _ _ _ _ _ _ _ (s₁.setTop (mkF m 3 #[.val (.ref r0), .val (.int p1), .val (.int p2), .val (.int p3), .val (.int p1), .unset, .unset] []))
  refine own_go (fun _ k => XS.iloadN X0.here hx rfl (hb hby d14_3) rfl k) ?_
  show own_Fin _ _ _ _ _ _ _ (s₁.setTop (mkF m 4 #[.val (.ref r0), .val (.int p1), .val (.int p2), .val (.int p3), .val (.int p1), .unset, .unset] [(.int p2)]))
  refine own_go (fun _ k => XS.istore X0.here hx rfl (hb hby d14_4) rfl (l' := #[.val (.ref r0), .val (.int p1), .val (.int p2), .val (.int p3), .val (.int p1), .val (.int p2), .unset]) rfl k) ?_
  show own_Fin _ _ _ _ _ _ _ (s₁.setTop (mkF m 6 #[.val (.ref r0), .val (.int p1), .val (.int p2), .val (.int p3), .val (.int p1), .val (.int p2), .unset] []))
  have loopA : ∀ (kA : Nat) (lo : Int32) (hi : Int32) (j6A : Slot) (TAL : State) (LAL : List Loc), kA = (hi.toInt - lo.toInt).toNat → own_falE xg p3 lo hi = own_falE xg p3 p1 p2 → ¬ lo < (0 : Int32) ∧ hi ≤ (3 : Int32) → Stand p l e rm14_room s m #[(.ref r0), (.int p1), (.int p2), (.int p3)] below meth c TAL LAL 0 0 → Fr n0 LAL → TAL.heap = h0 → One j6A → own_Fin p.tables e below s (Qrm14 Z r0 p1 p2 p3 xg h0 n0) rm14_room.cells rm14_room.slots (TAL.setTop (mkF m 6 #[.val (.ref r0), .val (.int p1), .val (.int p2), .val (.int p3), .val (.int lo), .val (.int hi), j6A] [])) := by
    intro kA
    induction kA using Nat.strongRecOn with
    | _ kA ihA =>
      intro lo hi j6A TAL LAL hkA hinv hlo XAL NAL eAL hj6A
      show own_Fin _ _ _ _ _ _ _ (TAL.setTop (mkF m 6 #[.val (.ref r0), .val (.int p1), .val (.int p2), .val (.int p3), .val (.int lo), .val (.int hi), j6A] []))
      refine own_go (fun _ k => XS.iload XAL.here hx rfl (hb hby d14_6) rfl k) ?_
      show own_Fin _ _ _ _ _ _ _ (TAL.setTop (mkF m 8 #[.val (.ref r0), .val (.int p1), .val (.int p2), .val (.int p3), .val (.int lo), .val (.int hi), j6A] [(.int lo)]))
      refine own_go (fun _ k => XS.iload XAL.here hx rfl (hb hby d14_8) rfl k) ?_
      show own_Fin _ _ _ _ _ _ _ (TAL.setTop (mkF m 10 #[.val (.ref r0), .val (.int p1), .val (.int p2), .val (.int p3), .val (.int lo), .val (.int hi), j6A] [(.int hi), (.int lo)]))
      by_cases hc1 : lo < hi
      · refine own_go (fun _ k => XS.icmpNo XAL.here hx rfl (hb hby d14_10) rfl (tlt hc1).2.1 k) ?_
        show own_Fin _ _ _ _ _ _ _ (TAL.setTop (mkF m 13 #[.val (.ref r0), .val (.int p1), .val (.int p2), .val (.int p3), .val (.int lo), .val (.int hi), j6A] []))
        refine own_go (fun _ k => XS.iload XAL.here hx rfl (hb hby d14_13) rfl k) ?_
        show own_Fin _ _ _ _ _ _ _ (TAL.setTop (mkF m 15 #[.val (.ref r0), .val (.int p1), .val (.int p2), .val (.int p3), .val (.int lo), .val (.int hi), j6A] [(.int lo)]))
        refine own_go (fun _ k => XS.iload XAL.here hx rfl (hb hby d14_15) rfl k) ?_
        show own_Fin _ _ _ _ _ _ _ (TAL.setTop (mkF m 17 #[.val (.ref r0), .val (.int p1), .val (.int p2), .val (.int p3), .val (.int lo), .val (.int hi), j6A] [(.int hi), (.int lo)]))
        refine own_go (fun _ k => XS.iadd XAL.here hx rfl (hb hby d14_17) rfl k) ?_
        show own_Fin _ _ _ _ _ _ _ (TAL.setTop (mkF m 18 #[.val (.ref r0), .val (.int p1), .val (.int p2), .val (.int p3), .val (.int lo), .val (.int hi), j6A] [(.int (lo + hi))]))
        refine own_go (fun _ k => XS.iconst XAL.here hx rfl (hb hby d14_18) k) ?_
        show own_Fin _ _ _ _ _ _ _ (TAL.setTop (mkF m 19 #[.val (.ref r0), .val (.int p1), .val (.int p2), .val (.int p3), .val (.int lo), .val (.int hi), j6A] [(.int (1 : Int32)), (.int (lo + hi))]))
        refine own_go (fun _ k => XS.iushr XAL.here hx rfl (hb hby d14_19) rfl k) ?_
        show own_Fin _ _ _ _ _ _ _ (TAL.setTop (mkF m 20 #[.val (.ref r0), .val (.int p1), .val (.int p2), .val (.int p3), .val (.int lo), .val (.int hi), j6A] [(.int (own_iushr (lo + hi) (1 : Int32)))]))
        refine own_go (fun _ k => XS.istoreS XAL.here hx rfl (hb hby d14_20) rfl rfl hj6A k) ?_
        show own_Fin _ _ _ _ _ _ _ (TAL.setTop (mkF m 22 #[.val (.ref r0), .val (.int p1), .val (.int p2), .val (.int p3), .val (.int lo), .val (.int hi), .val (.int (own_iushr (lo + hi) (1 : Int32)))] []))
        refine own_go (fun _ k => XS.aloadN XAL.here hx rfl (hb hby d14_22) rfl rfl k) ?_
        show own_Fin _ _ _ _ _ _ _ (TAL.setTop (mkF m 23 #[.val (.ref r0), .val (.int p1), .val (.int p2), .val (.int p3), .val (.int lo), .val (.int hi), .val (.int (own_iushr (lo + hi) (1 : Int32)))] [(.ref r0)]))
        refine own_go (fun _ k => XS.iload XAL.here hx rfl (hb hby d14_23) rfl k) ?_
        show own_Fin _ _ _ _ _ _ _ (TAL.setTop (mkF m 25 #[.val (.ref r0), .val (.int p1), .val (.int p2), .val (.int p3), .val (.int lo), .val (.int hi), .val (.int (own_iushr (lo + hi) (1 : Int32)))] [(.int (own_iushr (lo + hi) (1 : Int32))), (.ref r0)]))
        refine own_go (fun tg k => own_iaload XAL hx hZ eAL A_r0_0 (j := (own_iushr (lo + hi) (1 : Int32))) (own_fix hlo hc1) (x := (xg (own_iushr (lo + hi) (1 : Int32)).toNatClampNeg)) rfl (g := (mkF m 25 #[.val (.ref r0), .val (.int p1), .val (.int p2), .val (.int p3), .val (.int lo), .val (.int hi), .val (.int (own_iushr (lo + hi) (1 : Int32)))] [(.int (own_iushr (lo + hi) (1 : Int32))), (.ref r0)])) rfl rfl (hb hby d14_25) tg k) ?_
        show own_Fin _ _ _ _ _ _ _ (TAL.setTop (mkF m 26 #[.val (.ref r0), .val (.int p1), .val (.int p2), .val (.int p3), .val (.int lo), .val (.int hi), .val (.int (own_iushr (lo + hi) (1 : Int32)))] [(.int (xg (own_iushr (lo + hi) (1 : Int32)).toNatClampNeg))]))
        refine own_go (fun _ k => XS.iloadN XAL.here hx rfl (hb hby d14_26) rfl k) ?_
        show own_Fin _ _ _ _ _ _ _ (TAL.setTop (mkF m 27 #[.val (.ref r0), .val (.int p1), .val (.int p2), .val (.int p3), .val (.int lo), .val (.int hi), .val (.int (own_iushr (lo + hi) (1 : Int32)))] [(.int p3), (.int (xg (own_iushr (lo + hi) (1 : Int32)).toNatClampNeg))]))
        by_cases hc2 : (xg (own_iushr (lo + hi) (1 : Int32)).toNatClampNeg) < p3
        · refine own_go (fun _ k => XS.icmpNo XAL.here hx rfl (hb hby d14_27) rfl (tlt hc2).2.1 k) ?_
          show own_Fin _ _ _ _ _ _ _ (TAL.setTop (mkF m 30 #[.val (.ref r0), .val (.int p1), .val (.int p2), .val (.int p3), .val (.int lo), .val (.int hi), .val (.int (own_iushr (lo + hi) (1 : Int32)))] []))
          refine own_go (fun _ k => XS.iload XAL.here hx rfl (hb hby d14_30) rfl k) ?_
          show own_Fin _ _ _ _ _ _ _ (TAL.setTop (mkF m 32 #[.val (.ref r0), .val (.int p1), .val (.int p2), .val (.int p3), .val (.int lo), .val (.int hi), .val (.int (own_iushr (lo + hi) (1 : Int32)))] [(.int (own_iushr (lo + hi) (1 : Int32)))]))
          refine own_go (fun _ k => XS.iconst XAL.here hx rfl (hb hby d14_32) k) ?_
          show own_Fin _ _ _ _ _ _ _ (TAL.setTop (mkF m 33 #[.val (.ref r0), .val (.int p1), .val (.int p2), .val (.int p3), .val (.int lo), .val (.int hi), .val (.int (own_iushr (lo + hi) (1 : Int32)))] [(.int (1 : Int32)), (.int (own_iushr (lo + hi) (1 : Int32)))]))
          refine own_go (fun _ k => XS.iadd XAL.here hx rfl (hb hby d14_33) rfl k) ?_
          show own_Fin _ _ _ _ _ _ _ (TAL.setTop (mkF m 34 #[.val (.ref r0), .val (.int p1), .val (.int p2), .val (.int p3), .val (.int lo), .val (.int hi), .val (.int (own_iushr (lo + hi) (1 : Int32)))] [(.int ((own_iushr (lo + hi) (1 : Int32)) + (1 : Int32)))]))
          refine own_go (fun _ k => XS.istore XAL.here hx rfl (hb hby d14_34) rfl (l' := #[.val (.ref r0), .val (.int p1), .val (.int p2), .val (.int p3), .val (.int ((own_iushr (lo + hi) (1 : Int32)) + (1 : Int32))), .val (.int hi), .val (.int (own_iushr (lo + hi) (1 : Int32)))]) rfl k) ?_
          show own_Fin _ _ _ _ _ _ _ (TAL.setTop (mkF m 36 #[.val (.ref r0), .val (.int p1), .val (.int p2), .val (.int p3), .val (.int ((own_iushr (lo + hi) (1 : Int32)) + (1 : Int32))), .val (.int hi), .val (.int (own_iushr (lo + hi) (1 : Int32)))] []))
          refine own_go (fun _ k => XS.goto XAL.here hx rfl (pc0 := 36) (pc' := 43) rfl (hb hby d14_36) (by decide) (by decide) k) ?_
          show own_Fin _ _ _ _ _ _ _ (TAL.setTop (mkF m 43 #[.val (.ref r0), .val (.int p1), .val (.int p2), .val (.int p3), .val (.int ((own_iushr (lo + hi) (1 : Int32)) + (1 : Int32))), .val (.int hi), .val (.int (own_iushr (lo + hi) (1 : Int32)))] []))
          refine own_go (fun _ k => XS.goto XAL.here hx rfl (pc0 := 43) (pc' := 6) rfl (hb hby d14_43) (by decide) (by decide) k) ?_
          show own_Fin _ _ _ _ _ _ _ (TAL.setTop (mkF m 6 #[.val (.ref r0), .val (.int p1), .val (.int p2), .val (.int p3), .val (.int ((own_iushr (lo + hi) (1 : Int32)) + (1 : Int32))), .val (.int hi), .val (.int (own_iushr (lo + hi) (1 : Int32)))] []))
          exact ihA _ (by subst hkA; exact (own_mid hlo.1 hc1).2.2.1) (((own_iushr (lo + hi) (1 : Int32)) + (1 : Int32))) (hi) (.val (.int (own_iushr (lo + hi) (1 : Int32)))) TAL _ rfl (by rw [← hinv, own_fal1 hlo.1 hc1, if_pos hc2]) (own_fb1 hlo hc1) (own_mono XAL (by decide) (by decide)) NAL eAL (One.val rfl)
        · refine own_go (fun _ k => XS.icmpYes XAL.here hx rfl (pc0 := 27) (pc' := 39) rfl (hb hby d14_27) rfl (flt hc2).2.1 (by decide) (by decide) k) ?_
          show own_Fin _ _ _ _ _ _ _ (TAL.setTop (mkF m 39 #[.val (.ref r0), .val (.int p1), .val (.int p2), .val (.int p3), .val (.int lo), .val (.int hi), .val (.int (own_iushr (lo + hi) (1 : Int32)))] []))
          refine own_go (fun _ k => XS.iload XAL.here hx rfl (hb hby d14_39) rfl k) ?_
          show own_Fin _ _ _ _ _ _ _ (TAL.setTop (mkF m 41 #[.val (.ref r0), .val (.int p1), .val (.int p2), .val (.int p3), .val (.int lo), .val (.int hi), .val (.int (own_iushr (lo + hi) (1 : Int32)))] [(.int (own_iushr (lo + hi) (1 : Int32)))]))
          refine own_go (fun _ k => XS.istore XAL.here hx rfl (hb hby d14_41) rfl (l' := #[.val (.ref r0), .val (.int p1), .val (.int p2), .val (.int p3), .val (.int lo), .val (.int (own_iushr (lo + hi) (1 : Int32))), .val (.int (own_iushr (lo + hi) (1 : Int32)))]) rfl k) ?_
          show own_Fin _ _ _ _ _ _ _ (TAL.setTop (mkF m 43 #[.val (.ref r0), .val (.int p1), .val (.int p2), .val (.int p3), .val (.int lo), .val (.int (own_iushr (lo + hi) (1 : Int32))), .val (.int (own_iushr (lo + hi) (1 : Int32)))] []))
          refine own_go (fun _ k => XS.goto XAL.here hx rfl (pc0 := 43) (pc' := 6) rfl (hb hby d14_43) (by decide) (by decide) k) ?_
          show own_Fin _ _ _ _ _ _ _ (TAL.setTop (mkF m 6 #[.val (.ref r0), .val (.int p1), .val (.int p2), .val (.int p3), .val (.int lo), .val (.int (own_iushr (lo + hi) (1 : Int32))), .val (.int (own_iushr (lo + hi) (1 : Int32)))] []))
          exact ihA _ (by subst hkA; exact (own_mid hlo.1 hc1).2.2.2) (lo) ((own_iushr (lo + hi) (1 : Int32))) (.val (.int (own_iushr (lo + hi) (1 : Int32)))) TAL _ rfl (by rw [← hinv, own_fal1 hlo.1 hc1, if_neg hc2]) (own_fb2 hlo hc1) (own_mono XAL (by decide) (by decide)) NAL eAL (One.val rfl)
      · refine own_go (fun _ k => XS.icmpYes XAL.here hx rfl (pc0 := 10) (pc' := 46) rfl (hb hby d14_10) rfl (flt hc1).2.1 (by decide) (by decide) k) ?_
        show own_Fin _ _ _ _ _ _ _ (TAL.setTop (mkF m 46 #[.val (.ref r0), .val (.int p1), .val (.int p2), .val (.int p3), .val (.int lo), .val (.int hi), j6A] []))
        refine own_go (fun _ k => XS.iload XAL.here hx rfl (hb hby d14_46) rfl k) ?_
        show own_Fin _ _ _ _ _ _ _ (TAL.setTop (mkF m 48 #[.val (.ref r0), .val (.int p1), .val (.int p2), .val (.int p3), .val (.int lo), .val (.int hi), j6A] [(.int lo)]))
        refine own_ret XAL hx hlk Bd.returns rfl (Or.inl ⟨rfl, by simp, _, rfl⟩) (hb hby d14_48) (Nat.le_of_ble_eq_true rfl) (Nat.le_of_ble_eq_true rfl) ?_
        refine ⟨?_, NAL, eAL⟩
        · rw [← hinv, own_fal0 hc1]
  exact loopA _ (p1) (p2) (.unset) s₁ _ rfl rfl hp (own_mono X0 (by decide) (by decide)) N0 e0 One.u
def own_okF (p1 sh nB : Int32) (gB : Nat → Int32) : Prop := (own_iushr p1 sh) < (nB - (1 : Int32)) → (¬ (own_iushr p1 sh) < 0 ∧ (own_iushr p1 sh) < nB) ∧ (¬ ((own_iushr p1 sh) + (1 : Int32)) < 0 ∧ ((own_iushr p1 sh) + (1 : Int32)) < nB) ∧ (¬ gB (own_iushr p1 sh).toNatClampNeg < (0 : Int32) ∧ gB ((own_iushr p1 sh) + (1 : Int32)).toNatClampNeg ≤ (3 : Int32))
theorem own_pd286 : parseMethodDescriptor "([IIII)I" = some ⟨[(.array .int), .int, .int, .int], some .int⟩ := by decide +kernel
theorem d8_0 : decode prog_2_method_19_code 0 = .ok (.iload_n 1, 1) := by decide +kernel
theorem d8_1 : decode prog_2_method_19_code 1 = .ok (.aload_n 0, 1) := by decide +kernel
theorem d8_2 : decode prog_2_method_19_code 2 = .ok (.getfield 36, 3) := by decide +kernel
theorem d8_5 : decode prog_2_method_19_code 5 = .ok (.iushr, 1) := by decide +kernel
theorem d8_6 : decode prog_2_method_19_code 6 = .ok (.istore_n 2, 1) := by decide +kernel
theorem d8_7 : decode prog_2_method_19_code 7 = .ok (.iload_n 2, 1) := by decide +kernel
theorem d8_8 : decode prog_2_method_19_code 8 = .ok (.aload_n 0, 1) := by decide +kernel
theorem d8_9 : decode prog_2_method_19_code 9 = .ok (.getfield 42, 3) := by decide +kernel
theorem d8_12 : decode prog_2_method_19_code 12 = .ok (.arraylength, 1) := by decide +kernel
theorem d8_13 : decode prog_2_method_19_code 13 = .ok (.iconst 1, 1) := by decide +kernel
theorem d8_14 : decode prog_2_method_19_code 14 = .ok (.isub, 1) := by decide +kernel
theorem d8_15 : decode prog_2_method_19_code 15 = .ok (.if_icmp .lt 9, 3) := by decide +kernel
theorem d8_18 : decode prog_2_method_19_code 18 = .ok (.aload_n 0, 1) := by decide +kernel
theorem d8_19 : decode prog_2_method_19_code 19 = .ok (.getfield 17, 3) := by decide +kernel
theorem d8_22 : decode prog_2_method_19_code 22 = .ok (.arraylength, 1) := by decide +kernel
theorem d8_23 : decode prog_2_method_19_code 23 = .ok (.ireturn, 1) := by decide +kernel
theorem d8_24 : decode prog_2_method_19_code 24 = .ok (.aload_n 0, 1) := by decide +kernel
theorem d8_25 : decode prog_2_method_19_code 25 = .ok (.getfield 17, 3) := by decide +kernel
theorem d8_28 : decode prog_2_method_19_code 28 = .ok (.aload_n 0, 1) := by decide +kernel
theorem d8_29 : decode prog_2_method_19_code 29 = .ok (.getfield 42, 3) := by decide +kernel
theorem d8_32 : decode prog_2_method_19_code 32 = .ok (.iload_n 2, 1) := by decide +kernel
theorem d8_33 : decode prog_2_method_19_code 33 = .ok (.iaload, 1) := by decide +kernel
theorem d8_34 : decode prog_2_method_19_code 34 = .ok (.aload_n 0, 1) := by decide +kernel
theorem d8_35 : decode prog_2_method_19_code 35 = .ok (.getfield 42, 3) := by decide +kernel
theorem d8_38 : decode prog_2_method_19_code 38 = .ok (.iload_n 2, 1) := by decide +kernel
theorem d8_39 : decode prog_2_method_19_code 39 = .ok (.iconst 1, 1) := by decide +kernel
theorem d8_40 : decode prog_2_method_19_code 40 = .ok (.iadd, 1) := by decide +kernel
theorem d8_41 : decode prog_2_method_19_code 41 = .ok (.iaload, 1) := by decide +kernel
theorem d8_42 : decode prog_2_method_19_code 42 = .ok (.iload_n 1, 1) := by decide +kernel
theorem d8_43 : decode prog_2_method_19_code 43 = .ok (.invokestatic 100, 3) := by decide +kernel
theorem d8_46 : decode prog_2_method_19_code 46 = .ok (.ireturn, 1) := by decide +kernel
theorem pn_8 : plainName "com/example/reachability/reachability/CandidateList" = true := by first | (simp [plainName, overriddenIn]; done) | decide +kernel
theorem ef_8 (m : MethodId) (r0 : Addr) (p1 : Int32) : entryFrame m #[(.ref r0), (.int p1)] 3 = mkF m 0 #[.val (.ref r0), .val (.int p1), .unset] [] := by first | (simp [entryFrame, mkF, argsToLocals, Value.category]; done) | rfl
def rm8_room : Room := { frames := 1, cells := 0, slots := 0, locals := 18 }
def own_f8 (p1 : Int32) (sh : Int32) (nB : Int32) (gB : Nat → Int32) (gN : Nat → Int32) : Int32 := (if (own_iushr p1 sh) < (nB - (1 : Int32)) then ((own_falE gN p1 (gB (own_iushr p1 sh).toNatClampNeg) (gB ((own_iushr p1 sh) + (1 : Int32)).toNatClampNeg))) else ((3 : Int32)))
def Qrm8 (Z : State) (r0 : Addr) (p1 : Int32) (sh : Int32) (xB : Addr) (nB : Int32) (gB : Nat → Int32) (xN : Addr) (gN : Nat → Int32) (h0 : Heap) (n0 : Nat) (v : Option Value) (h : Heap) (L : List Loc) : Prop := v = some (.int (own_f8 p1 sh nB gB gN)) ∧ Fr n0 L ∧ h = h0
theorem own_lf_own_f8_1 {p1 : Int32} {sh : Int32} {nB : Int32} {gB : Nat → Int32} {gN : Nat → Int32} (hc3 : (own_iushr p1 sh) < (nB - (1 : Int32))) : (some (.int (own_falE gN p1 (gB (own_iushr p1 sh).toNatClampNeg) (gB ((own_iushr p1 sh) + (1 : Int32)).toNatClampNeg))) : Option Value) = some (.int (own_f8 p1 sh nB gB gN)) := by
  first | (simp only [own_f8, if_pos hc3]; done) | (simp only [own_f8, if_pos hc3]; rfl) | rfl
theorem own_lf_own_f8_2 {p1 : Int32} {sh : Int32} {nB : Int32} {gB : Nat → Int32} {gN : Nat → Int32} (hc3 : ¬ ((own_iushr p1 sh) < (nB - (1 : Int32)))) : (some (.int (3 : Int32)) : Option Value) = some (.int (own_f8 p1 sh nB gB gN)) := by
  first | (simp only [own_f8, if_neg hc3]; done) | (simp only [own_f8, if_neg hc3]; rfl) | rfl
set_option maxRecDepth 65536 in
set_option maxHeartbeats 40000000 in
theorem rm8 (l : Launch) (Z : State) (a0 : Array Value) (hw : ∀ d ∈ tables_1, d.before a0 Z = true) (ws : List Jvm.Cond) (r0 : Addr) (p1 : Int32) (sh : Int32) (xB : Addr) (nB : Int32) (gB : Nat → Int32) (xN : Addr) (gN : Nat → Int32) (h0 : Heap) (n0 : Nat) (Z0 : n0 ≤ h0.size) (F_bucketShift_r0_0 : Fld Z h0 r0 "com/example/reachability/reachability/CandidateList" "bucketShift" "I" (.int sh)) (F_bucketStart_r0_0 : Fld Z h0 r0 "com/example/reachability/reachability/CandidateList" "bucketStart" "[I" (.ref xB)) (A_xB_0 : own_Arf Z h0 xB .int nB (fun i => .int (gB i))) (F_numbers_r0_0 : Fld Z h0 r0 "com/example/reachability/reachability/CandidateList" "numbers" "[I" (.ref xN)) (A_xN_0 : own_Arf Z h0 xN .int (3 : Int32) (fun i => .int (gN i))) (hp : own_okF p1 sh nB gB) :
    MetFree l (⟨"com/example/reachability/reachability/CandidateList", "first", "(I)I"⟩ : MethodName) (head1 (Jvm.Cond.code (⟨"com/example/reachability/reachability/CandidateList", "first", "(I)I"⟩ : MethodName) prog_2_method_19_code 3 (some .int) :: ws) rm8_room) (fun a U => a = #[(.ref r0), (.int p1)] ∧ Z.Warmed39 U.vm ∧ U.heap = h0) (fun _ _ _ _ _ => True) (fun _ U o U' => ∃ v L, o = .returned v ∧ Qrm8 Z r0 p1 sh xB nB gB xN gN h0 n0 v U'.heap L ∧ FrameEnd U o U' L rm8_room.cells rm8_room.slots) := by
  refine MetFree.of_bodySF (plainFor_of_name pn_8) hisR ?_
  intro p e s m args below meth c s₁ Bd hml0 hP hK
  obtain ⟨rfl, hZ, hh⟩ := hP
  have hx := Bd.exec
  have hby := Bd.bytes
  have hml : c.maxLocals = 3 := hml0
  have hown : s.vm.findClass "com/example/reachability/reachability/CandidateList" = some m.cls := findClass_of_methodNamed Bd.named
  have hnm := (name_of_methodNamed Bd.named Bd.method).1
  have hlk : meth.locks = false := BodyLoose.notSynchronized Bd
  have X0 : Stand p l e rm8_room s m #[(.ref r0), (.int p1)] below meth c s₁ [] 0 0 := Stand.of_body Bd
  have e0 : s₁.heap = h0 := by rw [← hh, Bd.state]; rfl
  have N0 := Fr.nil n0
  show own_Fin p.tables e below s (Qrm8 Z r0 p1 sh xB nB gB xN gN h0 n0) rm8_room.cells rm8_room.slots (s₁.setTop (entryFrame m #[(.ref r0), (.int p1)] 3))
  rw [ef_8]
  show own_Fin _ _ _ _ _ _ _ (s₁.setTop (mkF m 0 #[.val (.ref r0), .val (.int p1), .unset] []))
  refine own_go (fun _ k => XS.iloadN X0.here hx rfl (hb hby d8_0) rfl k) ?_
  show own_Fin _ _ _ _ _ _ _ (s₁.setTop (mkF m 1 #[.val (.ref r0), .val (.int p1), .unset] [(.int p1)]))
  refine own_go (fun _ k => XS.aloadN X0.here hx rfl (hb hby d8_1) rfl rfl k) ?_
  show own_Fin _ _ _ _ _ _ _ (s₁.setTop (mkF m 2 #[.val (.ref r0), .val (.int p1), .unset] [(.ref r0), (.int p1)]))
  obtain ⟨T1, X1, e1, st1⟩ := getF X0 hx hZ hown (host := "") (Or.inl (hw _ (List.mem_of_getElem? (i := 31) rfl))) Via.refl e0 F_bucketShift_r0_0 (g := (mkF m 2 #[.val (.ref r0), .val (.int p1), .unset] [(.ref r0), (.int p1)])) rfl rfl (hb hby d8_2)
  refine own_go (fun tg k => st1 tg k) ?_
  show own_Fin _ _ _ _ _ _ _ (T1.setTop (mkF m 5 #[.val (.ref r0), .val (.int p1), .unset] [(.int sh), (.int p1)]))
  refine own_go (fun _ k => XS.iushr X1.here hx rfl (hb hby d8_5) rfl k) ?_
  show own_Fin _ _ _ _ _ _ _ (T1.setTop (mkF m 6 #[.val (.ref r0), .val (.int p1), .unset] [(.int (own_iushr p1 sh))]))
  refine own_go (fun _ k => XS.istoreN X1.here hx rfl (hb hby d8_6) rfl (l' := #[.val (.ref r0), .val (.int p1), .val (.int (own_iushr p1 sh))]) rfl k) ?_
  show own_Fin _ _ _ _ _ _ _ (T1.setTop (mkF m 7 #[.val (.ref r0), .val (.int p1), .val (.int (own_iushr p1 sh))] []))
  refine own_go (fun _ k => XS.iloadN X1.here hx rfl (hb hby d8_7) rfl k) ?_
  show own_Fin _ _ _ _ _ _ _ (T1.setTop (mkF m 8 #[.val (.ref r0), .val (.int p1), .val (.int (own_iushr p1 sh))] [(.int (own_iushr p1 sh))]))
  refine own_go (fun _ k => XS.aloadN X1.here hx rfl (hb hby d8_8) rfl rfl k) ?_
  show own_Fin _ _ _ _ _ _ _ (T1.setTop (mkF m 9 #[.val (.ref r0), .val (.int p1), .val (.int (own_iushr p1 sh))] [(.ref r0), (.int (own_iushr p1 sh))]))
  obtain ⟨T2, X2, e2, st2⟩ := getF X1 hx hZ hown (host := "") (Or.inl (hw _ (List.mem_of_getElem? (i := 36) rfl))) Via.refl e1 F_bucketStart_r0_0 (g := (mkF m 9 #[.val (.ref r0), .val (.int p1), .val (.int (own_iushr p1 sh))] [(.ref r0), (.int (own_iushr p1 sh))])) rfl rfl (hb hby d8_9)
  refine own_go (fun tg k => st2 tg k) ?_
  show own_Fin _ _ _ _ _ _ _ (T2.setTop (mkF m 12 #[.val (.ref r0), .val (.int p1), .val (.int (own_iushr p1 sh))] [(.ref xB), (.int (own_iushr p1 sh))]))
  refine own_go (fun tg k => own_alen X2 hx hZ e2 A_xB_0 (g := (mkF m 12 #[.val (.ref r0), .val (.int p1), .val (.int (own_iushr p1 sh))] [(.ref xB), (.int (own_iushr p1 sh))])) rfl rfl (hb hby d8_12) tg k) ?_
  show own_Fin _ _ _ _ _ _ _ (T2.setTop (mkF m 13 #[.val (.ref r0), .val (.int p1), .val (.int (own_iushr p1 sh))] [(.int nB), (.int (own_iushr p1 sh))]))
  refine own_go (fun _ k => XS.iconst X2.here hx rfl (hb hby d8_13) k) ?_
  show own_Fin _ _ _ _ _ _ _ (T2.setTop (mkF m 14 #[.val (.ref r0), .val (.int p1), .val (.int (own_iushr p1 sh))] [(.int (1 : Int32)), (.int nB), (.int (own_iushr p1 sh))]))
  refine own_go (fun _ k => XS.isub X2.here hx rfl (hb hby d8_14) rfl k) ?_
  show own_Fin _ _ _ _ _ _ _ (T2.setTop (mkF m 15 #[.val (.ref r0), .val (.int p1), .val (.int (own_iushr p1 sh))] [(.int (nB - (1 : Int32))), (.int (own_iushr p1 sh))]))
  by_cases hc3 : (own_iushr p1 sh) < (nB - (1 : Int32))
  · refine own_go (fun _ k => XS.icmpYes X2.here hx rfl (pc0 := 15) (pc' := 24) rfl (hb hby d8_15) rfl (tlt hc3).1 (by decide) (by decide) k) ?_
    show own_Fin _ _ _ _ _ _ _ (T2.setTop (mkF m 24 #[.val (.ref r0), .val (.int p1), .val (.int (own_iushr p1 sh))] []))
    refine own_go (fun _ k => XS.aloadN X2.here hx rfl (hb hby d8_24) rfl rfl k) ?_
    show own_Fin _ _ _ _ _ _ _ (T2.setTop (mkF m 25 #[.val (.ref r0), .val (.int p1), .val (.int (own_iushr p1 sh))] [(.ref r0)]))
    obtain ⟨T4, X4, e4, st4⟩ := getF X2 hx hZ hown (host := "") (Or.inl (hw _ (List.mem_of_getElem? (i := 14) rfl))) Via.refl e2 F_numbers_r0_0 (g := (mkF m 25 #[.val (.ref r0), .val (.int p1), .val (.int (own_iushr p1 sh))] [(.ref r0)])) rfl rfl (hb hby d8_25)
    refine own_go (fun tg k => st4 tg k) ?_
    show own_Fin _ _ _ _ _ _ _ (T4.setTop (mkF m 28 #[.val (.ref r0), .val (.int p1), .val (.int (own_iushr p1 sh))] [(.ref xN)]))
    refine own_go (fun _ k => XS.aloadN X4.here hx rfl (hb hby d8_28) rfl rfl k) ?_
    show own_Fin _ _ _ _ _ _ _ (T4.setTop (mkF m 29 #[.val (.ref r0), .val (.int p1), .val (.int (own_iushr p1 sh))] [(.ref r0), (.ref xN)]))
    obtain ⟨T5, X5, e5, st5⟩ := getF X4 hx hZ hown (host := "") (Or.inl (hw _ (List.mem_of_getElem? (i := 36) rfl))) Via.refl e4 F_bucketStart_r0_0 (g := (mkF m 29 #[.val (.ref r0), .val (.int p1), .val (.int (own_iushr p1 sh))] [(.ref r0), (.ref xN)])) rfl rfl (hb hby d8_29)
    refine own_go (fun tg k => st5 tg k) ?_
    show own_Fin _ _ _ _ _ _ _ (T5.setTop (mkF m 32 #[.val (.ref r0), .val (.int p1), .val (.int (own_iushr p1 sh))] [(.ref xB), (.ref xN)]))
    refine own_go (fun _ k => XS.iloadN X5.here hx rfl (hb hby d8_32) rfl k) ?_
    show own_Fin _ _ _ _ _ _ _ (T5.setTop (mkF m 33 #[.val (.ref r0), .val (.int p1), .val (.int (own_iushr p1 sh))] [(.int (own_iushr p1 sh)), (.ref xB), (.ref xN)]))
    refine own_go (fun tg k => own_iaload X5 hx hZ e5 A_xB_0 (j := (own_iushr p1 sh)) (hp hc3).1 (x := (gB (own_iushr p1 sh).toNatClampNeg)) rfl (g := (mkF m 33 #[.val (.ref r0), .val (.int p1), .val (.int (own_iushr p1 sh))] [(.int (own_iushr p1 sh)), (.ref xB), (.ref xN)])) rfl rfl (hb hby d8_33) tg k) ?_
    show own_Fin _ _ _ _ _ _ _ (T5.setTop (mkF m 34 #[.val (.ref r0), .val (.int p1), .val (.int (own_iushr p1 sh))] [(.int (gB (own_iushr p1 sh).toNatClampNeg)), (.ref xN)]))
    refine own_go (fun _ k => XS.aloadN X5.here hx rfl (hb hby d8_34) rfl rfl k) ?_
    show own_Fin _ _ _ _ _ _ _ (T5.setTop (mkF m 35 #[.val (.ref r0), .val (.int p1), .val (.int (own_iushr p1 sh))] [(.ref r0), (.int (gB (own_iushr p1 sh).toNatClampNeg)), (.ref xN)]))
    obtain ⟨T6, X6, e6, st6⟩ := getF X5 hx hZ hown (host := "") (Or.inl (hw _ (List.mem_of_getElem? (i := 36) rfl))) Via.refl e5 F_bucketStart_r0_0 (g := (mkF m 35 #[.val (.ref r0), .val (.int p1), .val (.int (own_iushr p1 sh))] [(.ref r0), (.int (gB (own_iushr p1 sh).toNatClampNeg)), (.ref xN)])) rfl rfl (hb hby d8_35)
    refine own_go (fun tg k => st6 tg k) ?_
    show own_Fin _ _ _ _ _ _ _ (T6.setTop (mkF m 38 #[.val (.ref r0), .val (.int p1), .val (.int (own_iushr p1 sh))] [(.ref xB), (.int (gB (own_iushr p1 sh).toNatClampNeg)), (.ref xN)]))
    refine own_go (fun _ k => XS.iloadN X6.here hx rfl (hb hby d8_38) rfl k) ?_
    show own_Fin _ _ _ _ _ _ _ (T6.setTop (mkF m 39 #[.val (.ref r0), .val (.int p1), .val (.int (own_iushr p1 sh))] [(.int (own_iushr p1 sh)), (.ref xB), (.int (gB (own_iushr p1 sh).toNatClampNeg)), (.ref xN)]))
    refine own_go (fun _ k => XS.iconst X6.here hx rfl (hb hby d8_39) k) ?_
    show own_Fin _ _ _ _ _ _ _ (T6.setTop (mkF m 40 #[.val (.ref r0), .val (.int p1), .val (.int (own_iushr p1 sh))] [(.int (1 : Int32)), (.int (own_iushr p1 sh)), (.ref xB), (.int (gB (own_iushr p1 sh).toNatClampNeg)), (.ref xN)]))
    refine own_go (fun _ k => XS.iadd X6.here hx rfl (hb hby d8_40) rfl k) ?_
    show own_Fin _ _ _ _ _ _ _ (T6.setTop (mkF m 41 #[.val (.ref r0), .val (.int p1), .val (.int (own_iushr p1 sh))] [(.int ((own_iushr p1 sh) + (1 : Int32))), (.ref xB), (.int (gB (own_iushr p1 sh).toNatClampNeg)), (.ref xN)]))
    refine own_go (fun tg k => own_iaload X6 hx hZ e6 A_xB_0 (j := ((own_iushr p1 sh) + (1 : Int32))) (hp hc3).2.1 (x := (gB ((own_iushr p1 sh) + (1 : Int32)).toNatClampNeg)) rfl (g := (mkF m 41 #[.val (.ref r0), .val (.int p1), .val (.int (own_iushr p1 sh))] [(.int ((own_iushr p1 sh) + (1 : Int32))), (.ref xB), (.int (gB (own_iushr p1 sh).toNatClampNeg)), (.ref xN)])) rfl rfl (hb hby d8_41) tg k) ?_
    show own_Fin _ _ _ _ _ _ _ (T6.setTop (mkF m 42 #[.val (.ref r0), .val (.int p1), .val (.int (own_iushr p1 sh))] [(.int (gB ((own_iushr p1 sh) + (1 : Int32)).toNatClampNeg)), (.int (gB (own_iushr p1 sh).toNatClampNeg)), (.ref xN)]))
    refine own_go (fun _ k => XS.iloadN X6.here hx rfl (hb hby d8_42) rfl k) ?_
    show own_Fin _ _ _ _ _ _ _ (T6.setTop (mkF m 43 #[.val (.ref r0), .val (.int p1), .val (.int (own_iushr p1 sh))] [(.int p1), (.int (gB ((own_iushr p1 sh) + (1 : Int32)).toNatClampNeg)), (.int (gB (own_iushr p1 sh).toNatClampNeg)), (.ref xN)]))
    obtain ⟨_, _, ⟨T7, L7, k7, n7⟩, -, X7, ⟨Lc7, hQ7, l7, y7, z7⟩, st7⟩ := Jvm.LawKit.callS X6 hx (y := (⟨"com/example/reachability/reachability/CandidateList", "firstAtLeast", "([IIII)I"⟩ : MethodName)) hown (mvT hZ (hw _ (List.mem_of_getElem? (i := 82) rfl))) (mvT hZ (hw _ (List.mem_of_getElem? (i := 83) rfl))) (mvT hZ (hw _ (List.mem_of_getElem? (i := 2) rfl))) (mvT hZ (hw _ (List.mem_of_getElem? (i := 84) rfl))) (by decide) (backOf (W := 0) (rm14 l Z a0 hw [] xN (gB (own_iushr p1 sh).toNatClampNeg) (gB ((own_iushr p1 sh) + (1 : Int32)).toNatClampNeg) p1 gN h0 n0 Z0 A_xN_0 (hp hc3).2.2) hZ (hw _ (List.mem_of_getElem? (i := 84) rfl)) (hw _ (List.mem_of_getElem? (i := 2) rfl)) (by decide) (by decide)) (g := (mkF m 43 #[.val (.ref r0), .val (.int p1), .val (.int (own_iushr p1 sh))] [(.int p1), (.int (gB ((own_iushr p1 sh) + (1 : Int32)).toNatClampNeg)), (.int (gB (own_iushr p1 sh).toNatClampNeg)), (.ref xN)])) rfl (by rw [hml]; rfl) (argsL := [(.ref xN), (.int (gB (own_iushr p1 sh).toNatClampNeg)), (.int (gB ((own_iushr p1 sh) + (1 : Int32)).toNatClampNeg)), (.int p1)]) (rest := []) (lenOf own_pd286 rfl) rfl (by show 2 * 0 + _ ≤ _; exact Nat.le_of_eq rfl) (hb hby d8_43) (fun _ _ => ⟨rfl, e6, (by decide : 0 + 0 ≤ _), (by decide : 0 + 0 ≤ _)⟩)
    dsimp only [Pt.U, Pt.locs, Pt.cells, Pt.slots] at X7 l7 y7 z7 st7 hQ7
    replace y7 : 0 = k7 := y7.symm
    replace z7 : 0 = n7 := z7.symm
    subst y7 z7
    obtain ⟨rfl, N7q, e7⟩ := hQ7
    have N7 : Fr n0 L7 := by rw [l7]; exact Fr.app N0 N7q
    refine own_go (fun tg k => st7 tg k) ?_
    show own_Fin _ _ _ _ _ _ _ (T7.setTop (mkF m 46 #[.val (.ref r0), .val (.int p1), .val (.int (own_iushr p1 sh))] [(.int (own_falE gN p1 (gB (own_iushr p1 sh).toNatClampNeg) (gB ((own_iushr p1 sh) + (1 : Int32)).toNatClampNeg)))]))
    refine own_ret X7 hx hlk Bd.returns rfl (Or.inl ⟨rfl, by simp, _, rfl⟩) (hb hby d8_46) (Nat.le_of_ble_eq_true rfl) (Nat.le_of_ble_eq_true rfl) ?_
    refine ⟨(own_lf_own_f8_1 (p1 := p1) (sh := sh) (nB := nB) (gB := gB) (gN := gN) hc3), N7, e7⟩
  · refine own_go (fun _ k => XS.icmpNo X2.here hx rfl (hb hby d8_15) rfl (flt hc3).1 k) ?_
    show own_Fin _ _ _ _ _ _ _ (T2.setTop (mkF m 18 #[.val (.ref r0), .val (.int p1), .val (.int (own_iushr p1 sh))] []))
    refine own_go (fun _ k => XS.aloadN X2.here hx rfl (hb hby d8_18) rfl rfl k) ?_
    show own_Fin _ _ _ _ _ _ _ (T2.setTop (mkF m 19 #[.val (.ref r0), .val (.int p1), .val (.int (own_iushr p1 sh))] [(.ref r0)]))
    obtain ⟨T8, X8, e8, st8⟩ := getF X2 hx hZ hown (host := "") (Or.inl (hw _ (List.mem_of_getElem? (i := 14) rfl))) Via.refl e2 F_numbers_r0_0 (g := (mkF m 19 #[.val (.ref r0), .val (.int p1), .val (.int (own_iushr p1 sh))] [(.ref r0)])) rfl rfl (hb hby d8_19)
    refine own_go (fun tg k => st8 tg k) ?_
    show own_Fin _ _ _ _ _ _ _ (T8.setTop (mkF m 22 #[.val (.ref r0), .val (.int p1), .val (.int (own_iushr p1 sh))] [(.ref xN)]))
    refine own_go (fun tg k => own_alen X8 hx hZ e8 A_xN_0 (g := (mkF m 22 #[.val (.ref r0), .val (.int p1), .val (.int (own_iushr p1 sh))] [(.ref xN)])) rfl rfl (hb hby d8_22) tg k) ?_
    show own_Fin _ _ _ _ _ _ _ (T8.setTop (mkF m 23 #[.val (.ref r0), .val (.int p1), .val (.int (own_iushr p1 sh))] [(.int (3 : Int32))]))
    refine own_ret X8 hx hlk Bd.returns rfl (Or.inl ⟨rfl, by simp, _, rfl⟩) (hb hby d8_23) (Nat.le_of_ble_eq_true rfl) (Nat.le_of_ble_eq_true rfl) ?_
    refine ⟨(own_lf_own_f8_2 (p1 := p1) (sh := sh) (nB := nB) (gB := gB) (gN := gN) hc3), N0, e8⟩
theorem d10_0 : decode prog_2_method_18_code 0 = .ok (.iload_n 1, 1) := by decide +kernel
theorem d10_1 : decode prog_2_method_18_code 1 = .ok (.aload_n 0, 1) := by decide +kernel
theorem d10_2 : decode prog_2_method_18_code 2 = .ok (.getfield 17, 3) := by decide +kernel
theorem d10_5 : decode prog_2_method_18_code 5 = .ok (.arraylength, 1) := by decide +kernel
theorem d10_6 : decode prog_2_method_18_code 6 = .ok (.if_icmp .ge 12, 3) := by decide +kernel
theorem d10_9 : decode prog_2_method_18_code 9 = .ok (.aload_n 0, 1) := by decide +kernel
theorem d10_10 : decode prog_2_method_18_code 10 = .ok (.getfield 17, 3) := by decide +kernel
theorem d10_13 : decode prog_2_method_18_code 13 = .ok (.iload_n 1, 1) := by decide +kernel
theorem d10_14 : decode prog_2_method_18_code 14 = .ok (.iaload, 1) := by decide +kernel
theorem d10_15 : decode prog_2_method_18_code 15 = .ok (.goto 5, 3) := by decide +kernel
theorem d10_18 : decode prog_2_method_18_code 18 = .ok (.ldc 53, 2) := by decide +kernel
theorem d10_20 : decode prog_2_method_18_code 20 = .ok (.ireturn, 1) := by decide +kernel
theorem pn_10 : plainName "com/example/reachability/reachability/CandidateList" = true := by first | (simp [plainName, overriddenIn]; done) | decide +kernel
theorem ef_10 (m : MethodId) (r0 : Addr) (p1 : Int32) : entryFrame m #[(.ref r0), (.int p1)] 2 = mkF m 0 #[.val (.ref r0), .val (.int p1)] [] := by first | (simp [entryFrame, mkF, argsToLocals, Value.category]; done) | rfl
def rm10_room : Room := { frames := 0, cells := 0, slots := 0, locals := 0 }
def own_f10 (p1 : Int32) (gN : Nat → Int32) : Int32 := (if p1 < (3 : Int32) then ((gN p1.toNatClampNeg)) else ((2147483647 : Int32)))
def Qrm10 (Z : State) (r0 : Addr) (p1 : Int32) (xN : Addr) (gN : Nat → Int32) (h0 : Heap) (n0 : Nat) (v : Option Value) (h : Heap) (L : List Loc) : Prop := v = some (.int (own_f10 p1 gN)) ∧ Fr n0 L ∧ h = h0
theorem own_lf_own_f10_1 {p1 : Int32} {gN : Nat → Int32} (hc2 : p1 < (3 : Int32)) : (some (.int (gN p1.toNatClampNeg)) : Option Value) = some (.int (own_f10 p1 gN)) := by
  first | (simp only [own_f10, if_pos hc2]; done) | (simp only [own_f10, if_pos hc2]; rfl) | rfl
theorem own_lf_own_f10_2 {p1 : Int32} {gN : Nat → Int32} (hc2 : ¬ (p1 < (3 : Int32))) : (some (.int (2147483647 : Int32)) : Option Value) = some (.int (own_f10 p1 gN)) := by
  first | (simp only [own_f10, if_neg hc2]; done) | (simp only [own_f10, if_neg hc2]; rfl) | rfl
set_option maxRecDepth 65536 in
set_option maxHeartbeats 40000000 in
theorem rm10 (l : Launch) (Z : State) (a0 : Array Value) (hw : ∀ d ∈ tables_1, d.before a0 Z = true) (ws : List Jvm.Cond) (r0 : Addr) (p1 : Int32) (xN : Addr) (gN : Nat → Int32) (h0 : Heap) (n0 : Nat) (Z0 : n0 ≤ h0.size) (F_numbers_r0_0 : Fld Z h0 r0 "com/example/reachability/reachability/CandidateList" "numbers" "[I" (.ref xN)) (A_xN_0 : own_Arf Z h0 xN .int (3 : Int32) (fun i => .int (gN i))) (hp : ¬ p1 < (0 : Int32)) :
    MetFree l (⟨"com/example/reachability/reachability/CandidateList", "numberOf", "(I)I"⟩ : MethodName) (head1 (Jvm.Cond.code (⟨"com/example/reachability/reachability/CandidateList", "numberOf", "(I)I"⟩ : MethodName) prog_2_method_18_code 2 (some .int) :: ws) rm10_room) (fun a U => a = #[(.ref r0), (.int p1)] ∧ Z.Warmed39 U.vm ∧ U.heap = h0) (fun _ _ _ _ _ => True) (fun _ U o U' => ∃ v L, o = .returned v ∧ Qrm10 Z r0 p1 xN gN h0 n0 v U'.heap L ∧ FrameEnd U o U' L rm10_room.cells rm10_room.slots) := by
  refine MetFree.of_bodySF (plainFor_of_name pn_10) hisR ?_
  intro p e s m args below meth c s₁ Bd hml0 hP hK
  obtain ⟨rfl, hZ, hh⟩ := hP
  have hx := Bd.exec
  have hby := Bd.bytes
  have hml : c.maxLocals = 2 := hml0
  have hown : s.vm.findClass "com/example/reachability/reachability/CandidateList" = some m.cls := findClass_of_methodNamed Bd.named
  have hnm := (name_of_methodNamed Bd.named Bd.method).1
  have hlk : meth.locks = false := BodyLoose.notSynchronized Bd
  have X0 : Stand p l e rm10_room s m #[(.ref r0), (.int p1)] below meth c s₁ [] 0 0 := Stand.of_body Bd
  have e0 : s₁.heap = h0 := by rw [← hh, Bd.state]; rfl
  have N0 := Fr.nil n0
  show own_Fin p.tables e below s (Qrm10 Z r0 p1 xN gN h0 n0) rm10_room.cells rm10_room.slots (s₁.setTop (entryFrame m #[(.ref r0), (.int p1)] 2))
  rw [ef_10]
  show own_Fin _ _ _ _ _ _ _ (s₁.setTop (mkF m 0 #[.val (.ref r0), .val (.int p1)] []))
  refine own_go (fun _ k => XS.iloadN X0.here hx rfl (hb hby d10_0) rfl k) ?_
  show own_Fin _ _ _ _ _ _ _ (s₁.setTop (mkF m 1 #[.val (.ref r0), .val (.int p1)] [(.int p1)]))
  refine own_go (fun _ k => XS.aloadN X0.here hx rfl (hb hby d10_1) rfl rfl k) ?_
  show own_Fin _ _ _ _ _ _ _ (s₁.setTop (mkF m 2 #[.val (.ref r0), .val (.int p1)] [(.ref r0), (.int p1)]))
  obtain ⟨T1, X1, e1, st1⟩ := getF X0 hx hZ hown (host := "") (Or.inl (hw _ (List.mem_of_getElem? (i := 14) rfl))) Via.refl e0 F_numbers_r0_0 (g := (mkF m 2 #[.val (.ref r0), .val (.int p1)] [(.ref r0), (.int p1)])) rfl rfl (hb hby d10_2)
  refine own_go (fun tg k => st1 tg k) ?_
  show own_Fin _ _ _ _ _ _ _ (T1.setTop (mkF m 5 #[.val (.ref r0), .val (.int p1)] [(.ref xN), (.int p1)]))
  refine own_go (fun tg k => own_alen X1 hx hZ e1 A_xN_0 (g := (mkF m 5 #[.val (.ref r0), .val (.int p1)] [(.ref xN), (.int p1)])) rfl rfl (hb hby d10_5) tg k) ?_
  show own_Fin _ _ _ _ _ _ _ (T1.setTop (mkF m 6 #[.val (.ref r0), .val (.int p1)] [(.int (3 : Int32)), (.int p1)]))
  by_cases hc2 : p1 < (3 : Int32)
  · refine own_go (fun _ k => XS.icmpNo X1.here hx rfl (hb hby d10_6) rfl (tlt hc2).2.1 k) ?_
    show own_Fin _ _ _ _ _ _ _ (T1.setTop (mkF m 9 #[.val (.ref r0), .val (.int p1)] []))
    refine own_go (fun _ k => XS.aloadN X1.here hx rfl (hb hby d10_9) rfl rfl k) ?_
    show own_Fin _ _ _ _ _ _ _ (T1.setTop (mkF m 10 #[.val (.ref r0), .val (.int p1)] [(.ref r0)]))
    obtain ⟨T3, X3, e3, st3⟩ := getF X1 hx hZ hown (host := "") (Or.inl (hw _ (List.mem_of_getElem? (i := 14) rfl))) Via.refl e1 F_numbers_r0_0 (g := (mkF m 10 #[.val (.ref r0), .val (.int p1)] [(.ref r0)])) rfl rfl (hb hby d10_10)
    refine own_go (fun tg k => st3 tg k) ?_
    show own_Fin _ _ _ _ _ _ _ (T3.setTop (mkF m 13 #[.val (.ref r0), .val (.int p1)] [(.ref xN)]))
    refine own_go (fun _ k => XS.iloadN X3.here hx rfl (hb hby d10_13) rfl k) ?_
    show own_Fin _ _ _ _ _ _ _ (T3.setTop (mkF m 14 #[.val (.ref r0), .val (.int p1)] [(.int p1), (.ref xN)]))
    refine own_go (fun tg k => own_iaload X3 hx hZ e3 A_xN_0 (j := p1) ⟨hp, hc2⟩ (x := (gN p1.toNatClampNeg)) rfl (g := (mkF m 14 #[.val (.ref r0), .val (.int p1)] [(.int p1), (.ref xN)])) rfl rfl (hb hby d10_14) tg k) ?_
    show own_Fin _ _ _ _ _ _ _ (T3.setTop (mkF m 15 #[.val (.ref r0), .val (.int p1)] [(.int (gN p1.toNatClampNeg))]))
    refine own_go (fun _ k => XS.goto X3.here hx rfl (pc0 := 15) (pc' := 20) rfl (hb hby d10_15) (by decide) (by decide) k) ?_
    show own_Fin _ _ _ _ _ _ _ (T3.setTop (mkF m 20 #[.val (.ref r0), .val (.int p1)] [(.int (gN p1.toNatClampNeg))]))
    refine own_ret X3 hx hlk Bd.returns rfl (Or.inl ⟨rfl, by simp, _, rfl⟩) (hb hby d10_20) (Nat.le_of_ble_eq_true rfl) (Nat.le_of_ble_eq_true rfl) ?_
    refine ⟨(own_lf_own_f10_1 (p1 := p1) (gN := gN) hc2), N0, e3⟩
  · refine own_go (fun _ k => XS.icmpYes X1.here hx rfl (pc0 := 6) (pc' := 18) rfl (hb hby d10_6) rfl (flt hc2).2.1 (by decide) (by decide) k) ?_
    show own_Fin _ _ _ _ _ _ _ (T1.setTop (mkF m 18 #[.val (.ref r0), .val (.int p1)] []))
    refine own_go (fun _ k => X1.ldcInt hx hown (mvT hZ (hw _ (List.mem_of_getElem? (i := 43) rfl))) (g := (mkF m 18 #[.val (.ref r0), .val (.int p1)] [])) rfl (hb hby d10_18) _ k) ?_
    show own_Fin _ _ _ _ _ _ _ (T1.setTop (mkF m 20 #[.val (.ref r0), .val (.int p1)] [(.int (2147483647 : Int32))]))
    refine own_ret X1 hx hlk Bd.returns rfl (Or.inl ⟨rfl, by simp, _, rfl⟩) (hb hby d10_20) (Nat.le_of_ble_eq_true rfl) (Nat.le_of_ble_eq_true rfl) ?_
    refine ⟨(own_lf_own_f10_2 (p1 := p1) (gN := gN) hc2), N0, e1⟩
theorem d15_0 : decode prog_2_method_9_code 0 = .ok (.aload_n 0, 1) := by decide +kernel
theorem d15_1 : decode prog_2_method_9_code 1 = .ok (.getfield 63, 3) := by decide +kernel
theorem d15_4 : decode prog_2_method_9_code 4 = .ok (.ifCond .eq 14, 3) := by decide +kernel
theorem d15_7 : decode prog_2_method_9_code 7 = .ok (.aload_n 0, 1) := by decide +kernel
theorem d15_8 : decode prog_2_method_9_code 8 = .ok (.getfield 60, 3) := by decide +kernel
theorem d15_11 : decode prog_2_method_9_code 11 = .ok (.ifCond .le 7, 3) := by decide +kernel
theorem d15_14 : decode prog_2_method_9_code 14 = .ok (.iconst 1, 1) := by decide +kernel
theorem d15_15 : decode prog_2_method_9_code 15 = .ok (.goto 4, 3) := by decide +kernel
theorem d15_18 : decode prog_2_method_9_code 18 = .ok (.iconst 0, 1) := by decide +kernel
theorem d15_19 : decode prog_2_method_9_code 19 = .ok (.ireturn, 1) := by decide +kernel
theorem pn_15 : plainName "com/example/reachability/reachability/CandidateList" = true := by first | (simp [plainName, overriddenIn]; done) | decide +kernel
theorem ef_15 (m : MethodId) (r0 : Addr) : entryFrame m #[(.ref r0)] 1 = mkF m 0 #[.val (.ref r0)] [] := by first | (simp [entryFrame, mkF, argsToLocals, Value.category]; done) | rfl
def rm15_room : Room := { frames := 0, cells := 0, slots := 0, locals := 0 }
def own_f15 (fo : Int32) (fc : Int32) : Int32 := (if fo = (0 : Int32) then ((0 : Int32)) else ((if (0 : Int32) < fc then ((1 : Int32)) else ((0 : Int32)))))
def Qrm15 (Z : State) (r0 : Addr) (fo : Int32) (fc : Int32) (h0 : Heap) (n0 : Nat) (v : Option Value) (h : Heap) (L : List Loc) : Prop := v = some (.int (own_f15 fo fc)) ∧ Fr n0 L ∧ h = h0
theorem own_lf_own_f15_1 {fo : Int32} {fc : Int32} (hc2 : fo = (0 : Int32)) : (some (.int (0 : Int32)) : Option Value) = some (.int (own_f15 fo fc)) := by
  first | (simp only [own_f15, if_pos hc2]; done) | (simp only [own_f15, if_pos hc2]; rfl) | rfl
theorem own_lf_own_f15_2 {fo : Int32} {fc : Int32} (hc2 : ¬ (fo = (0 : Int32))) (hc4 : (0 : Int32) < fc) : (some (.int (1 : Int32)) : Option Value) = some (.int (own_f15 fo fc)) := by
  first | (simp only [own_f15, if_neg hc2, if_pos hc4]; done) | (simp only [own_f15, if_neg hc2, if_pos hc4]; rfl) | rfl
theorem own_lf_own_f15_3 {fo : Int32} {fc : Int32} (hc2 : ¬ (fo = (0 : Int32))) (hc4 : ¬ ((0 : Int32) < fc)) : (some (.int (0 : Int32)) : Option Value) = some (.int (own_f15 fo fc)) := by
  first | (simp only [own_f15, if_neg hc2, if_neg hc4]; done) | (simp only [own_f15, if_neg hc2, if_neg hc4]; rfl) | rfl
set_option maxRecDepth 65536 in
set_option maxHeartbeats 40000000 in
theorem rm15 (l : Launch) (Z : State) (a0 : Array Value) (hw : ∀ d ∈ tables_1, d.before a0 Z = true) (ws : List Jvm.Cond) (r0 : Addr) (fo : Int32) (fc : Int32) (h0 : Heap) (n0 : Nat) (Z0 : n0 ≤ h0.size) (F_firstOnly_r0_0 : Fld Z h0 r0 "com/example/reachability/reachability/CandidateList" "firstOnly" "Z" (.int fo)) (F_foundCount_r0_0 : Fld Z h0 r0 "com/example/reachability/reachability/CandidateList" "foundCount" "I" (.int fc)) :
    MetFree l (⟨"com/example/reachability/reachability/CandidateList", "satisfied", "()Z"⟩ : MethodName) (head1 (Jvm.Cond.code (⟨"com/example/reachability/reachability/CandidateList", "satisfied", "()Z"⟩ : MethodName) prog_2_method_9_code 1 (some .boolean) :: ws) rm15_room) (fun a U => a = #[(.ref r0)] ∧ Z.Warmed39 U.vm ∧ U.heap = h0) (fun _ _ _ _ _ => True) (fun _ U o U' => ∃ v L, o = .returned v ∧ Qrm15 Z r0 fo fc h0 n0 v U'.heap L ∧ FrameEnd U o U' L rm15_room.cells rm15_room.slots) := by
  refine MetFree.of_bodySF (plainFor_of_name pn_15) hisR ?_
  intro p e s m args below meth c s₁ Bd hml0 hP hK
  obtain ⟨rfl, hZ, hh⟩ := hP
  have hx := Bd.exec
  have hby := Bd.bytes
  have hml : c.maxLocals = 1 := hml0
  have hown : s.vm.findClass "com/example/reachability/reachability/CandidateList" = some m.cls := findClass_of_methodNamed Bd.named
  have hnm := (name_of_methodNamed Bd.named Bd.method).1
  have hlk : meth.locks = false := BodyLoose.notSynchronized Bd
  have X0 : Stand p l e rm15_room s m #[(.ref r0)] below meth c s₁ [] 0 0 := Stand.of_body Bd
  have e0 : s₁.heap = h0 := by rw [← hh, Bd.state]; rfl
  have N0 := Fr.nil n0
  show own_Fin p.tables e below s (Qrm15 Z r0 fo fc h0 n0) rm15_room.cells rm15_room.slots (s₁.setTop (entryFrame m #[(.ref r0)] 1))
  rw [ef_15]
  show own_Fin _ _ _ _ _ _ _ (s₁.setTop (mkF m 0 #[.val (.ref r0)] []))
  refine own_go (fun _ k => XS.aloadN X0.here hx rfl (hb hby d15_0) rfl rfl k) ?_
  show own_Fin _ _ _ _ _ _ _ (s₁.setTop (mkF m 1 #[.val (.ref r0)] [(.ref r0)]))
  obtain ⟨T1, X1, e1, st1⟩ := getF X0 hx hZ hown (host := "") (Or.inl (hw _ (List.mem_of_getElem? (i := 46) rfl))) Via.refl e0 F_firstOnly_r0_0 (g := (mkF m 1 #[.val (.ref r0)] [(.ref r0)])) rfl rfl (hb hby d15_1)
  refine own_go (fun tg k => st1 tg k) ?_
  show own_Fin _ _ _ _ _ _ _ (T1.setTop (mkF m 4 #[.val (.ref r0)] [(.int fo)]))
  by_cases hc2 : fo = (0 : Int32)
  · refine own_go (fun _ k => XS.ifYes X1.here hx rfl (pc0 := 4) (pc' := 18) rfl (hb hby d15_4) rfl ((if0 _ _).trans (teq hc2).1) (by decide) (by decide) k) ?_
    show own_Fin _ _ _ _ _ _ _ (T1.setTop (mkF m 18 #[.val (.ref r0)] []))
    refine own_go (fun _ k => XS.iconst X1.here hx rfl (hb hby d15_18) k) ?_
    show own_Fin _ _ _ _ _ _ _ (T1.setTop (mkF m 19 #[.val (.ref r0)] [(.int (0 : Int32))]))
    refine own_ret X1 hx hlk Bd.returns rfl (Or.inl ⟨rfl, by simp, _, rfl⟩) (hb hby d15_19) (Nat.le_of_ble_eq_true rfl) (Nat.le_of_ble_eq_true rfl) ?_
    refine ⟨(own_lf_own_f15_1 (fo := fo) (fc := fc) hc2), N0, e1⟩
  · refine own_go (fun _ k => XS.ifNo X1.here hx rfl (hb hby d15_4) rfl ((if0 _ _).trans (feq hc2).1) k) ?_
    show own_Fin _ _ _ _ _ _ _ (T1.setTop (mkF m 7 #[.val (.ref r0)] []))
    refine own_go (fun _ k => XS.aloadN X1.here hx rfl (hb hby d15_7) rfl rfl k) ?_
    show own_Fin _ _ _ _ _ _ _ (T1.setTop (mkF m 8 #[.val (.ref r0)] [(.ref r0)]))
    obtain ⟨T3, X3, e3, st3⟩ := getF X1 hx hZ hown (host := "") (Or.inl (hw _ (List.mem_of_getElem? (i := 44) rfl))) Via.refl e1 F_foundCount_r0_0 (g := (mkF m 8 #[.val (.ref r0)] [(.ref r0)])) rfl rfl (hb hby d15_8)
    refine own_go (fun tg k => st3 tg k) ?_
    show own_Fin _ _ _ _ _ _ _ (T3.setTop (mkF m 11 #[.val (.ref r0)] [(.int fc)]))
    by_cases hc4 : (0 : Int32) < fc
    · refine own_go (fun _ k => XS.ifNo X3.here hx rfl (hb hby d15_11) rfl ((if0 _ _).trans (tlt hc4).2.2.2) k) ?_
      show own_Fin _ _ _ _ _ _ _ (T3.setTop (mkF m 14 #[.val (.ref r0)] []))
      refine own_go (fun _ k => XS.iconst X3.here hx rfl (hb hby d15_14) k) ?_
      show own_Fin _ _ _ _ _ _ _ (T3.setTop (mkF m 15 #[.val (.ref r0)] [(.int (1 : Int32))]))
      refine own_go (fun _ k => XS.goto X3.here hx rfl (pc0 := 15) (pc' := 19) rfl (hb hby d15_15) (by decide) (by decide) k) ?_
      show own_Fin _ _ _ _ _ _ _ (T3.setTop (mkF m 19 #[.val (.ref r0)] [(.int (1 : Int32))]))
      refine own_ret X3 hx hlk Bd.returns rfl (Or.inl ⟨rfl, by simp, _, rfl⟩) (hb hby d15_19) (Nat.le_of_ble_eq_true rfl) (Nat.le_of_ble_eq_true rfl) ?_
      refine ⟨(own_lf_own_f15_2 (fo := fo) (fc := fc) hc2 hc4), N0, e3⟩
    · refine own_go (fun _ k => XS.ifYes X3.here hx rfl (pc0 := 11) (pc' := 18) rfl (hb hby d15_11) rfl ((if0 _ _).trans (flt hc4).2.2.2) (by decide) (by decide) k) ?_
      show own_Fin _ _ _ _ _ _ _ (T3.setTop (mkF m 18 #[.val (.ref r0)] []))
      refine own_go (fun _ k => XS.iconst X3.here hx rfl (hb hby d15_18) k) ?_
      show own_Fin _ _ _ _ _ _ _ (T3.setTop (mkF m 19 #[.val (.ref r0)] [(.int (0 : Int32))]))
      refine own_ret X3 hx hlk Bd.returns rfl (Or.inl ⟨rfl, by simp, _, rfl⟩) (hb hby d15_19) (Nat.le_of_ble_eq_true rfl) (Nat.le_of_ble_eq_true rfl) ?_
      refine ⟨(own_lf_own_f15_3 (fo := fo) (fc := fc) hc2 hc4), N0, e3⟩
theorem own_sn346 {Z : State} {a0 : Array Value} (hw : ∀ d ∈ tables_1, d.before a0 Z = true) : Jvm.RoadKit.slotOf Z "com/example/reachability/reachability/CandidateList" "numbers" "[I" ≠ Jvm.RoadKit.slotOf Z "com/example/reachability/reachability/CandidateList" "foundCount" "I" := slot_ne (Or.inr (hw _ (List.mem_of_getElem? (i := 15) rfl))) (Or.inl (hw _ (List.mem_of_getElem? (i := 45) rfl))) (by decide) (t := (.array .int)) (t' := .int) (by decide) (by decide)
theorem own_sn347 {Z : State} {a0 : Array Value} (hw : ∀ d ∈ tables_1, d.before a0 Z = true) : Jvm.RoadKit.slotOf Z "com/example/reachability/reachability/CandidateList" "elements" "[I" ≠ Jvm.RoadKit.slotOf Z "com/example/reachability/reachability/CandidateList" "foundCount" "I" := slot_ne (Or.inr (hw _ (List.mem_of_getElem? (i := 17) rfl))) (Or.inl (hw _ (List.mem_of_getElem? (i := 45) rfl))) (by decide) (t := (.array .int)) (t' := .int) (by decide) (by decide)
theorem own_sn348 {Z : State} {a0 : Array Value} (hw : ∀ d ∈ tables_1, d.before a0 Z = true) : Jvm.RoadKit.slotOf Z "com/example/reachability/reachability/CandidateList" "foundIn" "[I" ≠ Jvm.RoadKit.slotOf Z "com/example/reachability/reachability/CandidateList" "foundCount" "I" := slot_ne (Or.inr (hw _ (List.mem_of_getElem? (i := 19) rfl))) (Or.inl (hw _ (List.mem_of_getElem? (i := 45) rfl))) (by decide) (t := (.array .int)) (t' := .int) (by decide) (by decide)
theorem own_sn349 {Z : State} {a0 : Array Value} (hw : ∀ d ∈ tables_1, d.before a0 Z = true) : Jvm.RoadKit.slotOf Z "com/example/reachability/reachability/CandidateList" "next" "[I" ≠ Jvm.RoadKit.slotOf Z "com/example/reachability/reachability/CandidateList" "foundCount" "I" := slot_ne (Or.inr (hw _ (List.mem_of_getElem? (i := 21) rfl))) (Or.inl (hw _ (List.mem_of_getElem? (i := 45) rfl))) (by decide) (t := (.array .int)) (t' := .int) (by decide) (by decide)
theorem own_sn350 {Z : State} {a0 : Array Value} (hw : ∀ d ∈ tables_1, d.before a0 Z = true) : Jvm.RoadKit.slotOf Z "com/example/reachability/reachability/CandidateList" "found" "[I" ≠ Jvm.RoadKit.slotOf Z "com/example/reachability/reachability/CandidateList" "foundCount" "I" := slot_ne (Or.inr (hw _ (List.mem_of_getElem? (i := 23) rfl))) (Or.inl (hw _ (List.mem_of_getElem? (i := 45) rfl))) (by decide) (t := (.array .int)) (t' := .int) (by decide) (by decide)
theorem own_sn351 {Z : State} {a0 : Array Value} (hw : ∀ d ∈ tables_1, d.before a0 Z = true) : Jvm.RoadKit.slotOf Z "com/example/reachability/reachability/CandidateList" "bucketShift" "I" ≠ Jvm.RoadKit.slotOf Z "com/example/reachability/reachability/CandidateList" "foundCount" "I" := slot_ne (Or.inr (hw _ (List.mem_of_getElem? (i := 32) rfl))) (Or.inl (hw _ (List.mem_of_getElem? (i := 45) rfl))) (by decide) (t := .int) (t' := .int) (by decide) (by decide)
theorem own_sn352 {Z : State} {a0 : Array Value} (hw : ∀ d ∈ tables_1, d.before a0 Z = true) : Jvm.RoadKit.slotOf Z "com/example/reachability/reachability/CandidateList" "bucketStart" "[I" ≠ Jvm.RoadKit.slotOf Z "com/example/reachability/reachability/CandidateList" "foundCount" "I" := slot_ne (Or.inr (hw _ (List.mem_of_getElem? (i := 37) rfl))) (Or.inl (hw _ (List.mem_of_getElem? (i := 45) rfl))) (by decide) (t := (.array .int)) (t' := .int) (by decide) (by decide)
theorem own_sn353 {Z : State} {a0 : Array Value} (hw : ∀ d ∈ tables_1, d.before a0 Z = true) : Jvm.RoadKit.slotOf Z "com/example/reachability/reachability/CandidateList" "search" "I" ≠ Jvm.RoadKit.slotOf Z "com/example/reachability/reachability/CandidateList" "foundCount" "I" := slot_ne (Or.inl (hw _ (List.mem_of_getElem? (i := 11) rfl))) (Or.inl (hw _ (List.mem_of_getElem? (i := 45) rfl))) (by decide) (t := .int) (t' := .int) (by decide) (by decide)
theorem own_sn354 {Z : State} {a0 : Array Value} (hw : ∀ d ∈ tables_1, d.before a0 Z = true) : Jvm.RoadKit.slotOf Z "com/example/reachability/reachability/CandidateList" "firstOnly" "Z" ≠ Jvm.RoadKit.slotOf Z "com/example/reachability/reachability/CandidateList" "foundCount" "I" := slot_ne (Or.inl (hw _ (List.mem_of_getElem? (i := 47) rfl))) (Or.inl (hw _ (List.mem_of_getElem? (i := 45) rfl))) (by decide) (t := .boolean) (t' := .int) (by decide) (by decide)
theorem own_sn355 {Z : State} {a0 : Array Value} (hw : ∀ d ∈ tables_1, d.before a0 Z = true) : Jvm.RoadKit.slotOf Z "com/example/reachability/reachability/CandidateList" "forRuns" "Z" ≠ Jvm.RoadKit.slotOf Z "com/example/reachability/reachability/CandidateList" "foundCount" "I" := slot_ne (Or.inl (hw _ (List.mem_of_getElem? (i := 49) rfl))) (Or.inl (hw _ (List.mem_of_getElem? (i := 45) rfl))) (by decide) (t := .boolean) (t' := .int) (by decide) (by decide)
theorem own_sn356 {Z : State} {a0 : Array Value} (hw : ∀ d ∈ tables_1, d.before a0 Z = true) : Jvm.RoadKit.slotOf Z "com/example/reachability/reachability/CandidateList" "runsLength" "I" ≠ Jvm.RoadKit.slotOf Z "com/example/reachability/reachability/CandidateList" "foundCount" "I" := slot_ne (Or.inl (hw _ (List.mem_of_getElem? (i := 51) rfl))) (Or.inl (hw _ (List.mem_of_getElem? (i := 45) rfl))) (by decide) (t := .int) (t' := .int) (by decide) (by decide)
theorem own_sn357 {Z : State} {a0 : Array Value} (hw : ∀ d ∈ tables_1, d.before a0 Z = true) : Jvm.RoadKit.slotOf Z "com/example/reachability/reachability/CandidateList" "numbers" "[I" ≠ Jvm.RoadKit.slotOf Z "com/example/reachability/reachability/CandidateList" "firstOnly" "Z" := slot_ne (Or.inr (hw _ (List.mem_of_getElem? (i := 15) rfl))) (Or.inl (hw _ (List.mem_of_getElem? (i := 47) rfl))) (by decide) (t := (.array .int)) (t' := .boolean) (by decide) (by decide)
theorem own_sn358 {Z : State} {a0 : Array Value} (hw : ∀ d ∈ tables_1, d.before a0 Z = true) : Jvm.RoadKit.slotOf Z "com/example/reachability/reachability/CandidateList" "elements" "[I" ≠ Jvm.RoadKit.slotOf Z "com/example/reachability/reachability/CandidateList" "firstOnly" "Z" := slot_ne (Or.inr (hw _ (List.mem_of_getElem? (i := 17) rfl))) (Or.inl (hw _ (List.mem_of_getElem? (i := 47) rfl))) (by decide) (t := (.array .int)) (t' := .boolean) (by decide) (by decide)
theorem own_sn359 {Z : State} {a0 : Array Value} (hw : ∀ d ∈ tables_1, d.before a0 Z = true) : Jvm.RoadKit.slotOf Z "com/example/reachability/reachability/CandidateList" "foundIn" "[I" ≠ Jvm.RoadKit.slotOf Z "com/example/reachability/reachability/CandidateList" "firstOnly" "Z" := slot_ne (Or.inr (hw _ (List.mem_of_getElem? (i := 19) rfl))) (Or.inl (hw _ (List.mem_of_getElem? (i := 47) rfl))) (by decide) (t := (.array .int)) (t' := .boolean) (by decide) (by decide)
theorem own_sn360 {Z : State} {a0 : Array Value} (hw : ∀ d ∈ tables_1, d.before a0 Z = true) : Jvm.RoadKit.slotOf Z "com/example/reachability/reachability/CandidateList" "next" "[I" ≠ Jvm.RoadKit.slotOf Z "com/example/reachability/reachability/CandidateList" "firstOnly" "Z" := slot_ne (Or.inr (hw _ (List.mem_of_getElem? (i := 21) rfl))) (Or.inl (hw _ (List.mem_of_getElem? (i := 47) rfl))) (by decide) (t := (.array .int)) (t' := .boolean) (by decide) (by decide)
theorem own_sn361 {Z : State} {a0 : Array Value} (hw : ∀ d ∈ tables_1, d.before a0 Z = true) : Jvm.RoadKit.slotOf Z "com/example/reachability/reachability/CandidateList" "found" "[I" ≠ Jvm.RoadKit.slotOf Z "com/example/reachability/reachability/CandidateList" "firstOnly" "Z" := slot_ne (Or.inr (hw _ (List.mem_of_getElem? (i := 23) rfl))) (Or.inl (hw _ (List.mem_of_getElem? (i := 47) rfl))) (by decide) (t := (.array .int)) (t' := .boolean) (by decide) (by decide)
theorem own_sn362 {Z : State} {a0 : Array Value} (hw : ∀ d ∈ tables_1, d.before a0 Z = true) : Jvm.RoadKit.slotOf Z "com/example/reachability/reachability/CandidateList" "bucketShift" "I" ≠ Jvm.RoadKit.slotOf Z "com/example/reachability/reachability/CandidateList" "firstOnly" "Z" := slot_ne (Or.inr (hw _ (List.mem_of_getElem? (i := 32) rfl))) (Or.inl (hw _ (List.mem_of_getElem? (i := 47) rfl))) (by decide) (t := .int) (t' := .boolean) (by decide) (by decide)
theorem own_sn363 {Z : State} {a0 : Array Value} (hw : ∀ d ∈ tables_1, d.before a0 Z = true) : Jvm.RoadKit.slotOf Z "com/example/reachability/reachability/CandidateList" "bucketStart" "[I" ≠ Jvm.RoadKit.slotOf Z "com/example/reachability/reachability/CandidateList" "firstOnly" "Z" := slot_ne (Or.inr (hw _ (List.mem_of_getElem? (i := 37) rfl))) (Or.inl (hw _ (List.mem_of_getElem? (i := 47) rfl))) (by decide) (t := (.array .int)) (t' := .boolean) (by decide) (by decide)
theorem own_sn364 {Z : State} {a0 : Array Value} (hw : ∀ d ∈ tables_1, d.before a0 Z = true) : Jvm.RoadKit.slotOf Z "com/example/reachability/reachability/CandidateList" "search" "I" ≠ Jvm.RoadKit.slotOf Z "com/example/reachability/reachability/CandidateList" "firstOnly" "Z" := slot_ne (Or.inl (hw _ (List.mem_of_getElem? (i := 11) rfl))) (Or.inl (hw _ (List.mem_of_getElem? (i := 47) rfl))) (by decide) (t := .int) (t' := .boolean) (by decide) (by decide)
theorem own_sn365 {Z : State} {a0 : Array Value} (hw : ∀ d ∈ tables_1, d.before a0 Z = true) : Jvm.RoadKit.slotOf Z "com/example/reachability/reachability/CandidateList" "foundCount" "I" ≠ Jvm.RoadKit.slotOf Z "com/example/reachability/reachability/CandidateList" "firstOnly" "Z" := slot_ne (Or.inl (hw _ (List.mem_of_getElem? (i := 45) rfl))) (Or.inl (hw _ (List.mem_of_getElem? (i := 47) rfl))) (by decide) (t := .int) (t' := .boolean) (by decide) (by decide)
theorem own_sn366 {Z : State} {a0 : Array Value} (hw : ∀ d ∈ tables_1, d.before a0 Z = true) : Jvm.RoadKit.slotOf Z "com/example/reachability/reachability/CandidateList" "forRuns" "Z" ≠ Jvm.RoadKit.slotOf Z "com/example/reachability/reachability/CandidateList" "firstOnly" "Z" := slot_ne (Or.inl (hw _ (List.mem_of_getElem? (i := 49) rfl))) (Or.inl (hw _ (List.mem_of_getElem? (i := 47) rfl))) (by decide) (t := .boolean) (t' := .boolean) (by decide) (by decide)
theorem own_sn367 {Z : State} {a0 : Array Value} (hw : ∀ d ∈ tables_1, d.before a0 Z = true) : Jvm.RoadKit.slotOf Z "com/example/reachability/reachability/CandidateList" "runsLength" "I" ≠ Jvm.RoadKit.slotOf Z "com/example/reachability/reachability/CandidateList" "firstOnly" "Z" := slot_ne (Or.inl (hw _ (List.mem_of_getElem? (i := 51) rfl))) (Or.inl (hw _ (List.mem_of_getElem? (i := 47) rfl))) (by decide) (t := .int) (t' := .boolean) (by decide) (by decide)
theorem own_sn368 {Z : State} {a0 : Array Value} (hw : ∀ d ∈ tables_1, d.before a0 Z = true) : Jvm.RoadKit.slotOf Z "com/example/reachability/reachability/CandidateList" "numbers" "[I" ≠ Jvm.RoadKit.slotOf Z "com/example/reachability/reachability/CandidateList" "forRuns" "Z" := slot_ne (Or.inr (hw _ (List.mem_of_getElem? (i := 15) rfl))) (Or.inl (hw _ (List.mem_of_getElem? (i := 49) rfl))) (by decide) (t := (.array .int)) (t' := .boolean) (by decide) (by decide)
theorem own_sn369 {Z : State} {a0 : Array Value} (hw : ∀ d ∈ tables_1, d.before a0 Z = true) : Jvm.RoadKit.slotOf Z "com/example/reachability/reachability/CandidateList" "elements" "[I" ≠ Jvm.RoadKit.slotOf Z "com/example/reachability/reachability/CandidateList" "forRuns" "Z" := slot_ne (Or.inr (hw _ (List.mem_of_getElem? (i := 17) rfl))) (Or.inl (hw _ (List.mem_of_getElem? (i := 49) rfl))) (by decide) (t := (.array .int)) (t' := .boolean) (by decide) (by decide)
theorem own_sn370 {Z : State} {a0 : Array Value} (hw : ∀ d ∈ tables_1, d.before a0 Z = true) : Jvm.RoadKit.slotOf Z "com/example/reachability/reachability/CandidateList" "foundIn" "[I" ≠ Jvm.RoadKit.slotOf Z "com/example/reachability/reachability/CandidateList" "forRuns" "Z" := slot_ne (Or.inr (hw _ (List.mem_of_getElem? (i := 19) rfl))) (Or.inl (hw _ (List.mem_of_getElem? (i := 49) rfl))) (by decide) (t := (.array .int)) (t' := .boolean) (by decide) (by decide)
theorem own_sn371 {Z : State} {a0 : Array Value} (hw : ∀ d ∈ tables_1, d.before a0 Z = true) : Jvm.RoadKit.slotOf Z "com/example/reachability/reachability/CandidateList" "next" "[I" ≠ Jvm.RoadKit.slotOf Z "com/example/reachability/reachability/CandidateList" "forRuns" "Z" := slot_ne (Or.inr (hw _ (List.mem_of_getElem? (i := 21) rfl))) (Or.inl (hw _ (List.mem_of_getElem? (i := 49) rfl))) (by decide) (t := (.array .int)) (t' := .boolean) (by decide) (by decide)
theorem own_sn372 {Z : State} {a0 : Array Value} (hw : ∀ d ∈ tables_1, d.before a0 Z = true) : Jvm.RoadKit.slotOf Z "com/example/reachability/reachability/CandidateList" "found" "[I" ≠ Jvm.RoadKit.slotOf Z "com/example/reachability/reachability/CandidateList" "forRuns" "Z" := slot_ne (Or.inr (hw _ (List.mem_of_getElem? (i := 23) rfl))) (Or.inl (hw _ (List.mem_of_getElem? (i := 49) rfl))) (by decide) (t := (.array .int)) (t' := .boolean) (by decide) (by decide)
theorem own_sn373 {Z : State} {a0 : Array Value} (hw : ∀ d ∈ tables_1, d.before a0 Z = true) : Jvm.RoadKit.slotOf Z "com/example/reachability/reachability/CandidateList" "bucketShift" "I" ≠ Jvm.RoadKit.slotOf Z "com/example/reachability/reachability/CandidateList" "forRuns" "Z" := slot_ne (Or.inr (hw _ (List.mem_of_getElem? (i := 32) rfl))) (Or.inl (hw _ (List.mem_of_getElem? (i := 49) rfl))) (by decide) (t := .int) (t' := .boolean) (by decide) (by decide)
theorem own_sn374 {Z : State} {a0 : Array Value} (hw : ∀ d ∈ tables_1, d.before a0 Z = true) : Jvm.RoadKit.slotOf Z "com/example/reachability/reachability/CandidateList" "bucketStart" "[I" ≠ Jvm.RoadKit.slotOf Z "com/example/reachability/reachability/CandidateList" "forRuns" "Z" := slot_ne (Or.inr (hw _ (List.mem_of_getElem? (i := 37) rfl))) (Or.inl (hw _ (List.mem_of_getElem? (i := 49) rfl))) (by decide) (t := (.array .int)) (t' := .boolean) (by decide) (by decide)
theorem own_sn375 {Z : State} {a0 : Array Value} (hw : ∀ d ∈ tables_1, d.before a0 Z = true) : Jvm.RoadKit.slotOf Z "com/example/reachability/reachability/CandidateList" "search" "I" ≠ Jvm.RoadKit.slotOf Z "com/example/reachability/reachability/CandidateList" "forRuns" "Z" := slot_ne (Or.inl (hw _ (List.mem_of_getElem? (i := 11) rfl))) (Or.inl (hw _ (List.mem_of_getElem? (i := 49) rfl))) (by decide) (t := .int) (t' := .boolean) (by decide) (by decide)
theorem own_sn376 {Z : State} {a0 : Array Value} (hw : ∀ d ∈ tables_1, d.before a0 Z = true) : Jvm.RoadKit.slotOf Z "com/example/reachability/reachability/CandidateList" "foundCount" "I" ≠ Jvm.RoadKit.slotOf Z "com/example/reachability/reachability/CandidateList" "forRuns" "Z" := slot_ne (Or.inl (hw _ (List.mem_of_getElem? (i := 45) rfl))) (Or.inl (hw _ (List.mem_of_getElem? (i := 49) rfl))) (by decide) (t := .int) (t' := .boolean) (by decide) (by decide)
theorem own_sn377 {Z : State} {a0 : Array Value} (hw : ∀ d ∈ tables_1, d.before a0 Z = true) : Jvm.RoadKit.slotOf Z "com/example/reachability/reachability/CandidateList" "firstOnly" "Z" ≠ Jvm.RoadKit.slotOf Z "com/example/reachability/reachability/CandidateList" "forRuns" "Z" := slot_ne (Or.inl (hw _ (List.mem_of_getElem? (i := 47) rfl))) (Or.inl (hw _ (List.mem_of_getElem? (i := 49) rfl))) (by decide) (t := .boolean) (t' := .boolean) (by decide) (by decide)
theorem own_sn378 {Z : State} {a0 : Array Value} (hw : ∀ d ∈ tables_1, d.before a0 Z = true) : Jvm.RoadKit.slotOf Z "com/example/reachability/reachability/CandidateList" "runsLength" "I" ≠ Jvm.RoadKit.slotOf Z "com/example/reachability/reachability/CandidateList" "forRuns" "Z" := slot_ne (Or.inl (hw _ (List.mem_of_getElem? (i := 51) rfl))) (Or.inl (hw _ (List.mem_of_getElem? (i := 49) rfl))) (by decide) (t := .int) (t' := .boolean) (by decide) (by decide)
theorem own_sn379 {Z : State} {a0 : Array Value} (hw : ∀ d ∈ tables_1, d.before a0 Z = true) : Jvm.RoadKit.slotOf Z "com/example/reachability/reachability/CandidateList" "numbers" "[I" ≠ Jvm.RoadKit.slotOf Z "com/example/reachability/reachability/CandidateList" "runsLength" "I" := slot_ne (Or.inr (hw _ (List.mem_of_getElem? (i := 15) rfl))) (Or.inl (hw _ (List.mem_of_getElem? (i := 51) rfl))) (by decide) (t := (.array .int)) (t' := .int) (by decide) (by decide)
theorem own_sn380 {Z : State} {a0 : Array Value} (hw : ∀ d ∈ tables_1, d.before a0 Z = true) : Jvm.RoadKit.slotOf Z "com/example/reachability/reachability/CandidateList" "elements" "[I" ≠ Jvm.RoadKit.slotOf Z "com/example/reachability/reachability/CandidateList" "runsLength" "I" := slot_ne (Or.inr (hw _ (List.mem_of_getElem? (i := 17) rfl))) (Or.inl (hw _ (List.mem_of_getElem? (i := 51) rfl))) (by decide) (t := (.array .int)) (t' := .int) (by decide) (by decide)
theorem own_sn381 {Z : State} {a0 : Array Value} (hw : ∀ d ∈ tables_1, d.before a0 Z = true) : Jvm.RoadKit.slotOf Z "com/example/reachability/reachability/CandidateList" "foundIn" "[I" ≠ Jvm.RoadKit.slotOf Z "com/example/reachability/reachability/CandidateList" "runsLength" "I" := slot_ne (Or.inr (hw _ (List.mem_of_getElem? (i := 19) rfl))) (Or.inl (hw _ (List.mem_of_getElem? (i := 51) rfl))) (by decide) (t := (.array .int)) (t' := .int) (by decide) (by decide)
theorem own_sn382 {Z : State} {a0 : Array Value} (hw : ∀ d ∈ tables_1, d.before a0 Z = true) : Jvm.RoadKit.slotOf Z "com/example/reachability/reachability/CandidateList" "next" "[I" ≠ Jvm.RoadKit.slotOf Z "com/example/reachability/reachability/CandidateList" "runsLength" "I" := slot_ne (Or.inr (hw _ (List.mem_of_getElem? (i := 21) rfl))) (Or.inl (hw _ (List.mem_of_getElem? (i := 51) rfl))) (by decide) (t := (.array .int)) (t' := .int) (by decide) (by decide)
theorem own_sn383 {Z : State} {a0 : Array Value} (hw : ∀ d ∈ tables_1, d.before a0 Z = true) : Jvm.RoadKit.slotOf Z "com/example/reachability/reachability/CandidateList" "found" "[I" ≠ Jvm.RoadKit.slotOf Z "com/example/reachability/reachability/CandidateList" "runsLength" "I" := slot_ne (Or.inr (hw _ (List.mem_of_getElem? (i := 23) rfl))) (Or.inl (hw _ (List.mem_of_getElem? (i := 51) rfl))) (by decide) (t := (.array .int)) (t' := .int) (by decide) (by decide)
theorem own_sn384 {Z : State} {a0 : Array Value} (hw : ∀ d ∈ tables_1, d.before a0 Z = true) : Jvm.RoadKit.slotOf Z "com/example/reachability/reachability/CandidateList" "bucketShift" "I" ≠ Jvm.RoadKit.slotOf Z "com/example/reachability/reachability/CandidateList" "runsLength" "I" := slot_ne (Or.inr (hw _ (List.mem_of_getElem? (i := 32) rfl))) (Or.inl (hw _ (List.mem_of_getElem? (i := 51) rfl))) (by decide) (t := .int) (t' := .int) (by decide) (by decide)
theorem own_sn385 {Z : State} {a0 : Array Value} (hw : ∀ d ∈ tables_1, d.before a0 Z = true) : Jvm.RoadKit.slotOf Z "com/example/reachability/reachability/CandidateList" "bucketStart" "[I" ≠ Jvm.RoadKit.slotOf Z "com/example/reachability/reachability/CandidateList" "runsLength" "I" := slot_ne (Or.inr (hw _ (List.mem_of_getElem? (i := 37) rfl))) (Or.inl (hw _ (List.mem_of_getElem? (i := 51) rfl))) (by decide) (t := (.array .int)) (t' := .int) (by decide) (by decide)
theorem own_sn386 {Z : State} {a0 : Array Value} (hw : ∀ d ∈ tables_1, d.before a0 Z = true) : Jvm.RoadKit.slotOf Z "com/example/reachability/reachability/CandidateList" "search" "I" ≠ Jvm.RoadKit.slotOf Z "com/example/reachability/reachability/CandidateList" "runsLength" "I" := slot_ne (Or.inl (hw _ (List.mem_of_getElem? (i := 11) rfl))) (Or.inl (hw _ (List.mem_of_getElem? (i := 51) rfl))) (by decide) (t := .int) (t' := .int) (by decide) (by decide)
theorem own_sn387 {Z : State} {a0 : Array Value} (hw : ∀ d ∈ tables_1, d.before a0 Z = true) : Jvm.RoadKit.slotOf Z "com/example/reachability/reachability/CandidateList" "foundCount" "I" ≠ Jvm.RoadKit.slotOf Z "com/example/reachability/reachability/CandidateList" "runsLength" "I" := slot_ne (Or.inl (hw _ (List.mem_of_getElem? (i := 45) rfl))) (Or.inl (hw _ (List.mem_of_getElem? (i := 51) rfl))) (by decide) (t := .int) (t' := .int) (by decide) (by decide)
theorem own_sn388 {Z : State} {a0 : Array Value} (hw : ∀ d ∈ tables_1, d.before a0 Z = true) : Jvm.RoadKit.slotOf Z "com/example/reachability/reachability/CandidateList" "firstOnly" "Z" ≠ Jvm.RoadKit.slotOf Z "com/example/reachability/reachability/CandidateList" "runsLength" "I" := slot_ne (Or.inl (hw _ (List.mem_of_getElem? (i := 47) rfl))) (Or.inl (hw _ (List.mem_of_getElem? (i := 51) rfl))) (by decide) (t := .boolean) (t' := .int) (by decide) (by decide)
theorem own_sn389 {Z : State} {a0 : Array Value} (hw : ∀ d ∈ tables_1, d.before a0 Z = true) : Jvm.RoadKit.slotOf Z "com/example/reachability/reachability/CandidateList" "forRuns" "Z" ≠ Jvm.RoadKit.slotOf Z "com/example/reachability/reachability/CandidateList" "runsLength" "I" := slot_ne (Or.inl (hw _ (List.mem_of_getElem? (i := 49) rfl))) (Or.inl (hw _ (List.mem_of_getElem? (i := 51) rfl))) (by decide) (t := .boolean) (t' := .int) (by decide) (by decide)
theorem d6_0 : decode prog_2_method_7_code 0 = .ok (.aload_n 0, 1) := by decide +kernel
theorem d6_1 : decode prog_2_method_7_code 1 = .ok (.dup, 1) := by decide +kernel
theorem d6_2 : decode prog_2_method_7_code 2 = .ok (.getfield 7, 3) := by decide +kernel
theorem d6_5 : decode prog_2_method_7_code 5 = .ok (.iconst 1, 1) := by decide +kernel
theorem d6_6 : decode prog_2_method_7_code 6 = .ok (.iadd, 1) := by decide +kernel
theorem d6_7 : decode prog_2_method_7_code 7 = .ok (.putfield 7, 3) := by decide +kernel
theorem d6_10 : decode prog_2_method_7_code 10 = .ok (.aload_n 0, 1) := by decide +kernel
theorem d6_11 : decode prog_2_method_7_code 11 = .ok (.getfield 7, 3) := by decide +kernel
theorem d6_14 : decode prog_2_method_7_code 14 = .ok (.ldc 53, 2) := by decide +kernel
theorem d6_16 : decode prog_2_method_7_code 16 = .ok (.if_icmp .ne 16, 3) := by decide +kernel
theorem d6_32 : decode prog_2_method_7_code 32 = .ok (.aload_n 0, 1) := by decide +kernel
theorem d6_33 : decode prog_2_method_7_code 33 = .ok (.iconst 0, 1) := by decide +kernel
theorem d6_34 : decode prog_2_method_7_code 34 = .ok (.putfield 60, 3) := by decide +kernel
theorem d6_37 : decode prog_2_method_7_code 37 = .ok (.aload_n 0, 1) := by decide +kernel
theorem d6_38 : decode prog_2_method_7_code 38 = .ok (.iload_n 1, 1) := by decide +kernel
theorem d6_39 : decode prog_2_method_7_code 39 = .ok (.putfield 63, 3) := by decide +kernel
theorem d6_42 : decode prog_2_method_7_code 42 = .ok (.aload_n 0, 1) := by decide +kernel
theorem d6_43 : decode prog_2_method_7_code 43 = .ok (.iconst 0, 1) := by decide +kernel
theorem d6_44 : decode prog_2_method_7_code 44 = .ok (.putfield 67, 3) := by decide +kernel
theorem d6_47 : decode prog_2_method_7_code 47 = .ok (.aload_n 0, 1) := by decide +kernel
theorem d6_48 : decode prog_2_method_7_code 48 = .ok (.iconst 0, 1) := by decide +kernel
theorem d6_49 : decode prog_2_method_7_code 49 = .ok (.putfield 70, 3) := by decide +kernel
theorem d6_52 : decode prog_2_method_7_code 52 = .ok (.return_, 1) := by decide +kernel
theorem pn_6 : plainName "com/example/reachability/reachability/CandidateList" = true := by first | (simp [plainName, overriddenIn]; done) | decide +kernel
theorem ef_6 (m : MethodId) (r0 : Addr) (p1 : Int32) : entryFrame m #[(.ref r0), (.int p1)] 2 = mkF m 0 #[.val (.ref r0), .val (.int p1)] [] := by first | (simp [entryFrame, mkF, argsToLocals, Value.category]; done) | rfl
def rm6_room : Room := { frames := 0, cells := 0, slots := 0, locals := 0 }
def Qrm6 (Z : State) (r0 : Addr) (p1 : Int32) (xN : Addr) (xE : Addr) (xF : Addr) (xX : Addr) (xD : Addr) (sh : Int32) (xB : Addr) (se : Int32) (fc : Int32) (fo : Int32) (fr : Int32) (rl : Int32) (h0 : Heap) (n0 : Nat) (v : Option Value) (h : Heap) (L : List Loc) : Prop := v = none ∧ Fr n0 L ∧ Keep h0 h [r0] ∧ Fld Z h r0 "com/example/reachability/reachability/CandidateList" "numbers" "[I" (.ref xN) ∧ Fld Z h r0 "com/example/reachability/reachability/CandidateList" "elements" "[I" (.ref xE) ∧ Fld Z h r0 "com/example/reachability/reachability/CandidateList" "foundIn" "[I" (.ref xF) ∧ Fld Z h r0 "com/example/reachability/reachability/CandidateList" "next" "[I" (.ref xX) ∧ Fld Z h r0 "com/example/reachability/reachability/CandidateList" "found" "[I" (.ref xD) ∧ Fld Z h r0 "com/example/reachability/reachability/CandidateList" "bucketShift" "I" (.int sh) ∧ Fld Z h r0 "com/example/reachability/reachability/CandidateList" "bucketStart" "[I" (.ref xB) ∧ Exa Z h r0 "com/example/reachability/reachability/CandidateList" ∧ Fld Z h r0 "com/example/reachability/reachability/CandidateList" "search" "I" (.int (se + (1 : Int32))) ∧ Fld Z h r0 "com/example/reachability/reachability/CandidateList" "foundCount" "I" (.int (0 : Int32)) ∧ Fld Z h r0 "com/example/reachability/reachability/CandidateList" "firstOnly" "Z" (.int (p1 &&& 1)) ∧ Fld Z h r0 "com/example/reachability/reachability/CandidateList" "forRuns" "Z" (.int (0 : Int32)) ∧ Fld Z h r0 "com/example/reachability/reachability/CandidateList" "runsLength" "I" (.int (0 : Int32))
set_option maxRecDepth 65536 in
set_option maxHeartbeats 40000000 in
theorem rm6 (l : Launch) (Z : State) (a0 : Array Value) (hw : ∀ d ∈ tables_1, d.before a0 Z = true) (ws : List Jvm.Cond) (r0 : Addr) (p1 : Int32) (xN : Addr) (xE : Addr) (xF : Addr) (xX : Addr) (xD : Addr) (sh : Int32) (xB : Addr) (se : Int32) (fc : Int32) (fo : Int32) (fr : Int32) (rl : Int32) (h0 : Heap) (n0 : Nat) (Z0 : n0 ≤ h0.size) (F_numbers_r0_0 : Fld Z h0 r0 "com/example/reachability/reachability/CandidateList" "numbers" "[I" (.ref xN)) (F_elements_r0_0 : Fld Z h0 r0 "com/example/reachability/reachability/CandidateList" "elements" "[I" (.ref xE)) (F_foundIn_r0_0 : Fld Z h0 r0 "com/example/reachability/reachability/CandidateList" "foundIn" "[I" (.ref xF)) (F_next_r0_0 : Fld Z h0 r0 "com/example/reachability/reachability/CandidateList" "next" "[I" (.ref xX)) (F_found_r0_0 : Fld Z h0 r0 "com/example/reachability/reachability/CandidateList" "found" "[I" (.ref xD)) (F_bucketShift_r0_0 : Fld Z h0 r0 "com/example/reachability/reachability/CandidateList" "bucketShift" "I" (.int sh)) (F_bucketStart_r0_0 : Fld Z h0 r0 "com/example/reachability/reachability/CandidateList" "bucketStart" "[I" (.ref xB)) (E_r0_0 : Exa Z h0 r0 "com/example/reachability/reachability/CandidateList") (F_search_r0_0 : Fld Z h0 r0 "com/example/reachability/reachability/CandidateList" "search" "I" (.int se)) (F_foundCount_r0_0 : Fld Z h0 r0 "com/example/reachability/reachability/CandidateList" "foundCount" "I" (.int fc)) (F_firstOnly_r0_0 : Fld Z h0 r0 "com/example/reachability/reachability/CandidateList" "firstOnly" "Z" (.int fo)) (F_forRuns_r0_0 : Fld Z h0 r0 "com/example/reachability/reachability/CandidateList" "forRuns" "Z" (.int fr)) (F_runsLength_r0_0 : Fld Z h0 r0 "com/example/reachability/reachability/CandidateList" "runsLength" "I" (.int rl)) (ge_r0 : n0 ≤ r0) (hp : ¬ (se + (1 : Int32)) = (2147483647 : Int32)) :
    MetFree l (⟨"com/example/reachability/reachability/CandidateList", "reset", "(Z)V"⟩ : MethodName) (head1 (Jvm.Cond.code (⟨"com/example/reachability/reachability/CandidateList", "reset", "(Z)V"⟩ : MethodName) prog_2_method_7_code 2 none :: ws) rm6_room) (fun a U => a = #[(.ref r0), (.int p1)] ∧ Z.Warmed39 U.vm ∧ U.heap = h0) (fun _ _ _ _ _ => True) (fun _ U o U' => ∃ v L, o = .returned v ∧ Qrm6 Z r0 p1 xN xE xF xX xD sh xB se fc fo fr rl h0 n0 v U'.heap L ∧ FrameEnd U o U' L rm6_room.cells rm6_room.slots) := by
  refine MetFree.of_bodySF (plainFor_of_name pn_6) hisR ?_
  intro p e s m args below meth c s₁ Bd hml0 hP hK
  obtain ⟨rfl, hZ, hh⟩ := hP
  have hx := Bd.exec
  have hby := Bd.bytes
  have hml : c.maxLocals = 2 := hml0
  have hown : s.vm.findClass "com/example/reachability/reachability/CandidateList" = some m.cls := findClass_of_methodNamed Bd.named
  have hnm := (name_of_methodNamed Bd.named Bd.method).1
  have hlk : meth.locks = false := BodyLoose.notSynchronized Bd
  have X0 : Stand p l e rm6_room s m #[(.ref r0), (.int p1)] below meth c s₁ [] 0 0 := Stand.of_body Bd
  have e0 : s₁.heap = h0 := by rw [← hh, Bd.state]; rfl
  have N0 := Fr.nil n0
  show own_Fin p.tables e below s (Qrm6 Z r0 p1 xN xE xF xX xD sh xB se fc fo fr rl h0 n0) rm6_room.cells rm6_room.slots (s₁.setTop (entryFrame m #[(.ref r0), (.int p1)] 2))
  rw [ef_6]
  show own_Fin _ _ _ _ _ _ _ (s₁.setTop (mkF m 0 #[.val (.ref r0), .val (.int p1)] []))
  have K0 := Keep.refl h0 [r0]
  refine own_go (fun _ k => XS.aloadN X0.here hx rfl (hb hby d6_0) rfl rfl k) ?_
  refine own_go (fun _ k => XS.dup X0.here hx rfl (hb hby d6_1) rfl rfl k) ?_
  obtain ⟨T1, X1, e1, st1⟩ := getF X0 hx hZ hown (host := "") (Or.inl (hw _ (List.mem_of_getElem? (i := 10) rfl))) Via.refl e0 F_search_r0_0 (g := (mkF m 2 #[.val (.ref r0), .val (.int p1)] [(.ref r0), (.ref r0)])) rfl rfl (hb hby d6_2)
  refine own_go (fun tg k => st1 tg k) ?_
  show own_Fin _ _ _ _ _ _ _ (T1.setTop (mkF m 5 #[.val (.ref r0), .val (.int p1)] [(.int se), (.ref r0)]))
  refine own_go (fun _ k => XS.iconst X1.here hx rfl (hb hby d6_5) k) ?_
  refine own_go (fun _ k => XS.iadd X1.here hx rfl (hb hby d6_6) rfl k) ?_
  show own_Fin _ _ _ _ _ _ _ (T1.setTop (mkF m 7 #[.val (.ref r0), .val (.int p1)] [(.int (se + (1 : Int32))), (.ref r0)]))
  obtain ⟨T2, h2, X2, e2, W2, st2⟩ := putF X1 hx hZ hown (host := "") (Or.inl (hw _ (List.mem_of_getElem? (i := 10) rfl))) Via.refl e1 F_search_r0_0 E_r0_0 (Or.inl (hw _ (List.mem_of_getElem? (i := 11) rfl))) (hw _ (List.mem_of_getElem? (i := 1) rfl)) (ty := .int) (by decide) rfl rfl (g := (mkF m 7 #[.val (.ref r0), .val (.int p1)] [(.int (se + (1 : Int32))), (.ref r0)])) rfl rfl (hb hby d6_7)
  have F_numbers_r0_2 := F_numbers_r0_0.other W2 (Or.inr (own_sn104 hw))
  have F_elements_r0_2 := F_elements_r0_0.other W2 (Or.inr (own_sn105 hw))
  have F_foundIn_r0_2 := F_foundIn_r0_0.other W2 (Or.inr (own_sn106 hw))
  have F_next_r0_2 := F_next_r0_0.other W2 (Or.inr (own_sn107 hw))
  have F_found_r0_2 := F_found_r0_0.other W2 (Or.inr (own_sn108 hw))
  have F_bucketShift_r0_2 := F_bucketShift_r0_0.other W2 (Or.inr (own_sn109 hw))
  have F_bucketStart_r0_2 := F_bucketStart_r0_0.other W2 (Or.inr (own_sn110 hw))
  have E_r0_2 := E_r0_0.wr W2
  have F_foundCount_r0_2 := F_foundCount_r0_0.other W2 (Or.inr (own_sn111 hw))
  have F_firstOnly_r0_2 := F_firstOnly_r0_0.other W2 (Or.inr (own_sn112 hw))
  have F_forRuns_r0_2 := F_forRuns_r0_0.other W2 (Or.inr (own_sn113 hw))
  have F_runsLength_r0_2 := F_runsLength_r0_0.other W2 (Or.inr (own_sn114 hw))
  have K2 := K0.wr W2 (Or.inl (List.mem_of_getElem? (i := 0) rfl))
  have N2 := Fr.snoc X2 N0 ge_r0
  have Z2 : n0 ≤ h2.size := Nat.le_trans Z0 (Keep.of_wr W2).1
  have F_search_r0_2 := F_search_r0_0.same W2
  refine own_go (fun tg k => st2 tg k) ?_
  show own_Fin _ _ _ _ _ _ _ (T2.setTop (mkF m 10 #[.val (.ref r0), .val (.int p1)] []))
  refine own_go (fun _ k => XS.aloadN X2.here hx rfl (hb hby d6_10) rfl rfl k) ?_
  obtain ⟨T3, X3, e3, st3⟩ := getF X2 hx hZ hown (host := "") (Or.inl (hw _ (List.mem_of_getElem? (i := 10) rfl))) Via.refl e2 F_search_r0_2 (g := (mkF m 11 #[.val (.ref r0), .val (.int p1)] [(.ref r0)])) rfl rfl (hb hby d6_11)
  refine own_go (fun tg k => st3 tg k) ?_
  show own_Fin _ _ _ _ _ _ _ (T3.setTop (mkF m 14 #[.val (.ref r0), .val (.int p1)] [(.int (se + (1 : Int32)))]))
  refine own_go (fun _ k => X3.ldcInt hx hown (mvT hZ (hw _ (List.mem_of_getElem? (i := 43) rfl))) (g := (mkF m 14 #[.val (.ref r0), .val (.int p1)] [(.int (se + (1 : Int32)))])) rfl (hb hby d6_14) _ k) ?_
  show own_Fin _ _ _ _ _ _ _ (T3.setTop (mkF m 16 #[.val (.ref r0), .val (.int p1)] [(.int (2147483647 : Int32)), (.int (se + (1 : Int32)))]))
  have hc16 : ¬ ((se + (1 : Int32)) = (2147483647 : Int32)) := hp
  refine own_go (fun _ k => XS.icmpYes X3.here hx rfl (pc0 := 16) (pc' := 32) rfl (hb hby d6_16) rfl (feq hc16).2 (by decide) (by decide) k) ?_
  show own_Fin _ _ _ _ _ _ _ (T3.setTop (mkF m 32 #[.val (.ref r0), .val (.int p1)] []))
  refine own_go (fun _ k => XS.aloadN X3.here hx rfl (hb hby d6_32) rfl rfl k) ?_
  refine own_go (fun _ k => XS.iconst X3.here hx rfl (hb hby d6_33) k) ?_
  obtain ⟨T4, h4, X4, e4, W4, st4⟩ := putF X3 hx hZ hown (host := "") (Or.inl (hw _ (List.mem_of_getElem? (i := 44) rfl))) Via.refl e3 F_foundCount_r0_2 E_r0_2 (Or.inl (hw _ (List.mem_of_getElem? (i := 45) rfl))) (hw _ (List.mem_of_getElem? (i := 1) rfl)) (ty := .int) (by decide) rfl rfl (g := (mkF m 34 #[.val (.ref r0), .val (.int p1)] [(.int (0 : Int32)), (.ref r0)])) rfl rfl (hb hby d6_34)
  have F_numbers_r0_4 := F_numbers_r0_2.other W4 (Or.inr (own_sn346 hw))
  have F_elements_r0_4 := F_elements_r0_2.other W4 (Or.inr (own_sn347 hw))
  have F_foundIn_r0_4 := F_foundIn_r0_2.other W4 (Or.inr (own_sn348 hw))
  have F_next_r0_4 := F_next_r0_2.other W4 (Or.inr (own_sn349 hw))
  have F_found_r0_4 := F_found_r0_2.other W4 (Or.inr (own_sn350 hw))
  have F_bucketShift_r0_4 := F_bucketShift_r0_2.other W4 (Or.inr (own_sn351 hw))
  have F_bucketStart_r0_4 := F_bucketStart_r0_2.other W4 (Or.inr (own_sn352 hw))
  have E_r0_4 := E_r0_2.wr W4
  have F_search_r0_4 := F_search_r0_2.other W4 (Or.inr (own_sn353 hw))
  have F_firstOnly_r0_4 := F_firstOnly_r0_2.other W4 (Or.inr (own_sn354 hw))
  have F_forRuns_r0_4 := F_forRuns_r0_2.other W4 (Or.inr (own_sn355 hw))
  have F_runsLength_r0_4 := F_runsLength_r0_2.other W4 (Or.inr (own_sn356 hw))
  have K4 := K2.wr W4 (Or.inl (List.mem_of_getElem? (i := 0) rfl))
  have N4 := Fr.snoc X4 N2 ge_r0
  have Z4 : n0 ≤ h4.size := Nat.le_trans Z2 (Keep.of_wr W4).1
  have F_foundCount_r0_4 := F_foundCount_r0_2.same W4
  refine own_go (fun tg k => st4 tg k) ?_
  show own_Fin _ _ _ _ _ _ _ (T4.setTop (mkF m 37 #[.val (.ref r0), .val (.int p1)] []))
  refine own_go (fun _ k => XS.aloadN X4.here hx rfl (hb hby d6_37) rfl rfl k) ?_
  refine own_go (fun _ k => XS.iloadN X4.here hx rfl (hb hby d6_38) rfl k) ?_
  obtain ⟨T5, h5, X5, e5, W5, st5⟩ := putFN X4 hx hZ hown (hw _ (List.mem_of_getElem? (i := 46) rfl)) Via.refl e4 F_firstOnly_r0_4 E_r0_4 (Or.inl (hw _ (List.mem_of_getElem? (i := 47) rfl))) (hw _ (List.mem_of_getElem? (i := 1) rfl)) (ty := .boolean) (v' := (.int (p1 &&& 1))) (by decide) rfl (fits_nar_bool _) (g := (mkF m 39 #[.val (.ref r0), .val (.int p1)] [(.int p1), (.ref r0)])) rfl rfl (hb hby d6_39)
  have F_numbers_r0_5 := F_numbers_r0_4.other W5 (Or.inr (own_sn357 hw))
  have F_elements_r0_5 := F_elements_r0_4.other W5 (Or.inr (own_sn358 hw))
  have F_foundIn_r0_5 := F_foundIn_r0_4.other W5 (Or.inr (own_sn359 hw))
  have F_next_r0_5 := F_next_r0_4.other W5 (Or.inr (own_sn360 hw))
  have F_found_r0_5 := F_found_r0_4.other W5 (Or.inr (own_sn361 hw))
  have F_bucketShift_r0_5 := F_bucketShift_r0_4.other W5 (Or.inr (own_sn362 hw))
  have F_bucketStart_r0_5 := F_bucketStart_r0_4.other W5 (Or.inr (own_sn363 hw))
  have E_r0_5 := E_r0_4.wr W5
  have F_search_r0_5 := F_search_r0_4.other W5 (Or.inr (own_sn364 hw))
  have F_foundCount_r0_5 := F_foundCount_r0_4.other W5 (Or.inr (own_sn365 hw))
  have F_forRuns_r0_5 := F_forRuns_r0_4.other W5 (Or.inr (own_sn366 hw))
  have F_runsLength_r0_5 := F_runsLength_r0_4.other W5 (Or.inr (own_sn367 hw))
  have K5 := K4.wr W5 (Or.inl (List.mem_of_getElem? (i := 0) rfl))
  have N5 := Fr.snoc X5 N4 ge_r0
  have Z5 : n0 ≤ h5.size := Nat.le_trans Z4 (Keep.of_wr W5).1
  have F_firstOnly_r0_5 := F_firstOnly_r0_4.same W5
  refine own_go (fun tg k => st5 tg k) ?_
  show own_Fin _ _ _ _ _ _ _ (T5.setTop (mkF m 42 #[.val (.ref r0), .val (.int p1)] []))
  refine own_go (fun _ k => XS.aloadN X5.here hx rfl (hb hby d6_42) rfl rfl k) ?_
  refine own_go (fun _ k => XS.iconst X5.here hx rfl (hb hby d6_43) k) ?_
  obtain ⟨T6, h6, X6, e6, W6, st6⟩ := putFN X5 hx hZ hown (hw _ (List.mem_of_getElem? (i := 48) rfl)) Via.refl e5 F_forRuns_r0_5 E_r0_5 (Or.inl (hw _ (List.mem_of_getElem? (i := 49) rfl))) (hw _ (List.mem_of_getElem? (i := 1) rfl)) (ty := .boolean) (v' := (.int (0 : Int32))) (by decide) rfl (by decide) (g := (mkF m 44 #[.val (.ref r0), .val (.int p1)] [(.int (0 : Int32)), (.ref r0)])) rfl rfl (hb hby d6_44)
  have F_numbers_r0_6 := F_numbers_r0_5.other W6 (Or.inr (own_sn368 hw))
  have F_elements_r0_6 := F_elements_r0_5.other W6 (Or.inr (own_sn369 hw))
  have F_foundIn_r0_6 := F_foundIn_r0_5.other W6 (Or.inr (own_sn370 hw))
  have F_next_r0_6 := F_next_r0_5.other W6 (Or.inr (own_sn371 hw))
  have F_found_r0_6 := F_found_r0_5.other W6 (Or.inr (own_sn372 hw))
  have F_bucketShift_r0_6 := F_bucketShift_r0_5.other W6 (Or.inr (own_sn373 hw))
  have F_bucketStart_r0_6 := F_bucketStart_r0_5.other W6 (Or.inr (own_sn374 hw))
  have E_r0_6 := E_r0_5.wr W6
  have F_search_r0_6 := F_search_r0_5.other W6 (Or.inr (own_sn375 hw))
  have F_foundCount_r0_6 := F_foundCount_r0_5.other W6 (Or.inr (own_sn376 hw))
  have F_firstOnly_r0_6 := F_firstOnly_r0_5.other W6 (Or.inr (own_sn377 hw))
  have F_runsLength_r0_6 := F_runsLength_r0_5.other W6 (Or.inr (own_sn378 hw))
  have K6 := K5.wr W6 (Or.inl (List.mem_of_getElem? (i := 0) rfl))
  have N6 := Fr.snoc X6 N5 ge_r0
  have Z6 : n0 ≤ h6.size := Nat.le_trans Z5 (Keep.of_wr W6).1
  have F_forRuns_r0_6 := F_forRuns_r0_5.same W6
  refine own_go (fun tg k => st6 tg k) ?_
  show own_Fin _ _ _ _ _ _ _ (T6.setTop (mkF m 47 #[.val (.ref r0), .val (.int p1)] []))
  refine own_go (fun _ k => XS.aloadN X6.here hx rfl (hb hby d6_47) rfl rfl k) ?_
  refine own_go (fun _ k => XS.iconst X6.here hx rfl (hb hby d6_48) k) ?_
  obtain ⟨T7, h7, X7, e7, W7, st7⟩ := putF X6 hx hZ hown (host := "") (Or.inl (hw _ (List.mem_of_getElem? (i := 50) rfl))) Via.refl e6 F_runsLength_r0_6 E_r0_6 (Or.inl (hw _ (List.mem_of_getElem? (i := 51) rfl))) (hw _ (List.mem_of_getElem? (i := 1) rfl)) (ty := .int) (by decide) rfl rfl (g := (mkF m 49 #[.val (.ref r0), .val (.int p1)] [(.int (0 : Int32)), (.ref r0)])) rfl rfl (hb hby d6_49)
  have F_numbers_r0_7 := F_numbers_r0_6.other W7 (Or.inr (own_sn379 hw))
  have F_elements_r0_7 := F_elements_r0_6.other W7 (Or.inr (own_sn380 hw))
  have F_foundIn_r0_7 := F_foundIn_r0_6.other W7 (Or.inr (own_sn381 hw))
  have F_next_r0_7 := F_next_r0_6.other W7 (Or.inr (own_sn382 hw))
  have F_found_r0_7 := F_found_r0_6.other W7 (Or.inr (own_sn383 hw))
  have F_bucketShift_r0_7 := F_bucketShift_r0_6.other W7 (Or.inr (own_sn384 hw))
  have F_bucketStart_r0_7 := F_bucketStart_r0_6.other W7 (Or.inr (own_sn385 hw))
  have E_r0_7 := E_r0_6.wr W7
  have F_search_r0_7 := F_search_r0_6.other W7 (Or.inr (own_sn386 hw))
  have F_foundCount_r0_7 := F_foundCount_r0_6.other W7 (Or.inr (own_sn387 hw))
  have F_firstOnly_r0_7 := F_firstOnly_r0_6.other W7 (Or.inr (own_sn388 hw))
  have F_forRuns_r0_7 := F_forRuns_r0_6.other W7 (Or.inr (own_sn389 hw))
  have K7 := K6.wr W7 (Or.inl (List.mem_of_getElem? (i := 0) rfl))
  have N7 := Fr.snoc X7 N6 ge_r0
  have Z7 : n0 ≤ h7.size := Nat.le_trans Z6 (Keep.of_wr W7).1
  have F_runsLength_r0_7 := F_runsLength_r0_6.same W7
  refine own_go (fun tg k => st7 tg k) ?_
  show own_Fin _ _ _ _ _ _ _ (T7.setTop (mkF m 52 #[.val (.ref r0), .val (.int p1)] []))
  refine own_retV X7 hx hlk Bd.returns (hb hby d6_52) (Nat.le_of_ble_eq_true rfl) (Nat.le_of_ble_eq_true rfl) ?_
  rw [e7]
  refine ⟨rfl, N7, K7, ?_, ?_, ?_, ?_, ?_, ?_, ?_, E_r0_7, ?_, ?_, ?_, ?_, ?_⟩
  · (exact F_numbers_r0_7)
  · (exact F_elements_r0_7)
  · (exact F_foundIn_r0_7)
  · (exact F_next_r0_7)
  · (exact F_found_r0_7)
  · (exact F_bucketShift_r0_7)
  · (exact F_bucketStart_r0_7)
  · (exact F_search_r0_7)
  · (exact F_foundCount_r0_7)
  · (exact F_firstOnly_r0_7)
  · (exact F_forRuns_r0_7)
  · (exact F_runsLength_r0_7)
/-- what find needs to know of the buckets -/
def own_okS (p1 sh nB : Int32) (gB gN : Nat → Int32) : Prop := own_okF p1 sh nB gB ∧ ∃ r : Nat, (own_f8 p1 sh nB gB gN).toInt = r ∧ r ≤ 3
theorem own_okS1 {p1 sh nB : Int32} {gB gN : Nat → Int32} (h : own_okS p1 sh nB gB gN) : own_okF p1 sh nB gB := h.1
theorem own_first3 {p1 sh nB : Int32} {gB gN : Nat → Int32} (h : own_okS p1 sh nB gB gN) (n0 : ¬ own_f8 p1 sh nB gB gN = (0 : Int32)) (n1 : ¬ own_f8 p1 sh nB gB gN = (1 : Int32)) (n2 : ¬ own_f8 p1 sh nB gB gN = (2 : Int32)) : own_f8 p1 sh nB gB gN = (3 : Int32) := by
  obtain ⟨-, r, hr, h3⟩ := h
  have m0 : (own_f8 p1 sh nB gB gN).toInt ≠ 0 := fun z => n0 (Int32.toInt_inj.mp z)
  have m1 : (own_f8 p1 sh nB gB gN).toInt ≠ 1 := fun z => n1 (Int32.toInt_inj.mp z)
  have m2 : (own_f8 p1 sh nB gB gN).toInt ≠ 2 := fun z => n2 (Int32.toInt_inj.mp z)
  exact Int32.toInt_inj.mp (by rw [show (3 : Int32).toInt = 3 from by decide]; omega)

/-- r is the first place from e on that isn't found -/
def own_isnf (F : Nat → Int32) (se e r : Int32) : Prop := e.toInt ≤ r.toInt ∧ r.toInt ≤ 3 ∧ (r.toInt < 3 → ¬ F r.toNatClampNeg = se) ∧ ∀ j : Nat, e.toInt ≤ j → (j : Int) < r.toInt → F j = se
def own_nf (F : Nat → Int32) (se e : Int32) : Int32 := if e ≤ (0 : Int32) ∧ ¬ F 0 = se then (0 : Int32) else if e ≤ (1 : Int32) ∧ ¬ F 1 = se then (1 : Int32) else if e ≤ (2 : Int32) ∧ ¬ F 2 = se then (2 : Int32) else (3 : Int32)
def own_inv (F X : Nat → Int32) (se e : Int32) : Prop := ∀ i : Nat, e.toInt ≤ i → i < 3 → F i = se → (i : Int) < (X i).toInt ∧ (X i).toInt ≤ 3 ∧ ∀ j : Nat, i < j → (j : Int) < (X i).toInt → F j = se
theorem own_k0 : (0 : Int32).toInt = 0 := by decide
theorem own_k1 : (1 : Int32).toInt = 1 := by decide
theorem own_k2 : (2 : Int32).toInt = 2 := by decide
theorem own_k3 : (3 : Int32).toInt = 3 := by decide
theorem own_c0 : (0 : Int32).toNatClampNeg = 0 := by decide
theorem own_c1 : (1 : Int32).toNatClampNeg = 1 := by decide
theorem own_c2 : (2 : Int32).toNatClampNeg = 2 := by decide
theorem own_c3 : (3 : Int32).toNatClampNeg = 3 := by decide
theorem own_nfis (F : Nat → Int32) (se e : Int32) (h : 0 ≤ e.toInt ∧ e.toInt ≤ 3) : own_isnf F se e (own_nf F se e) := by
  unfold own_nf own_isnf
  simp only [Int32.le_iff_toInt_le, own_k0, own_k1, own_k2]
  split
  · rename_i q; simp only [own_k0, own_c0]; exact ⟨by omega, by omega, fun _ => q.2, fun j a b => by omega⟩
  · rename_i q0
    split
    · rename_i q; simp only [own_k1, own_c1]
      refine ⟨by omega, by omega, fun _ => q.2, fun j a b => ?_⟩
      obtain rfl : j = 0 := by omega
      exact Decidable.byContradiction fun z => q0 ⟨by omega, z⟩
    · rename_i q1
      split
      · rename_i q; simp only [own_k2, own_c2]
        refine ⟨by omega, by omega, fun _ => q.2, fun j a b => ?_⟩
        rcases (show j = 0 ∨ j = 1 by omega) with rfl | rfl
        · exact Decidable.byContradiction fun z => q0 ⟨by omega, z⟩
        · exact Decidable.byContradiction fun z => q1 ⟨by omega, z⟩
      · rename_i q2; simp only [own_k3]
        refine ⟨by omega, by omega, fun z => absurd z (by omega), fun j a b => ?_⟩
        rcases (show j = 0 ∨ j = 1 ∨ j = 2 by omega) with rfl | rfl | rfl
        · exact Decidable.byContradiction fun z => q0 ⟨by omega, z⟩
        · exact Decidable.byContradiction fun z => q1 ⟨by omega, z⟩
        · exact Decidable.byContradiction fun z => q2 ⟨by omega, z⟩
theorem own_nfu {F : Nat → Int32} {se e r r' : Int32} (h0 : 0 ≤ e.toInt) (h : own_isnf F se e r) (h' : own_isnf F se e r') : r = r' := by
  obtain ⟨a1, a2, a3, a4⟩ := h
  obtain ⟨b1, b2, b3, b4⟩ := h'
  refine Int32.toInt_inj.mp ?_
  have c1 : r.toNatClampNeg = r.toInt.toNat := rfl
  have c2 : r'.toNatClampNeg = r'.toInt.toNat := rfl
  rcases Int.lt_trichotomy r.toInt r'.toInt with q | q | q
  · exact absurd (b4 r.toNatClampNeg (by omega) (by omega)) (a3 (by omega))
  · exact q
  · exact absurd (a4 r'.toNatClampNeg (by omega) (by omega)) (b3 (by omega))
/-! open -/
def own_rt (F : Nat → Int32) (se e r : Int32) : Prop := e.toInt ≤ r.toInt ∧ r.toInt ≤ 3 ∧ ∀ j : Nat, e.toInt ≤ j → (j : Int) < r.toInt → F j = se
def own_okO (F X : Nat → Int32) (se e : Int32) : Prop := 0 ≤ e.toInt ∧ e.toInt ≤ 3 ∧ own_inv F X se e
theorem own_bd3 {e : Int32} (h0 : 0 ≤ e.toInt) (h : e < (3 : Int32)) : ¬ e < 0 ∧ e < (3 : Int32) := by
  refine ⟨?_, h⟩
  rw [Int32.lt_iff_toInt_lt, own_k0]; omega
theorem own_oE {F X : Nat → Int32} {se e : Int32} (hp : own_okO F X se e) : own_rt F se e e := ⟨Int.le_refl _, hp.2.1, fun j a b => by omega⟩
theorem own_oB {F X : Nat → Int32} {se e r : Int32} (hp : own_okO F X se e) (hr : own_rt F se e r) (h : r < (3 : Int32)) (hf : F r.toNatClampNeg = se) : (3 - (X r.toNatClampNeg).toInt).toNat < (3 - r.toInt).toNat ∧ own_rt F se e (X r.toNatClampNeg) := by
  obtain ⟨p0, p3, hI⟩ := hp
  obtain ⟨r1, r2, r3⟩ := hr
  rw [Int32.lt_iff_toInt_lt, own_k3] at h
  have c1 : r.toNatClampNeg = r.toInt.toNat := rfl
  obtain ⟨x1, x2, x3⟩ := hI r.toNatClampNeg (by omega) (by omega) hf
  refine ⟨by omega, by omega, x2, fun j a b => ?_⟩
  by_cases q1 : (j : Int) < r.toInt
  · exact r3 j a q1
  · by_cases q2 : j = r.toNatClampNeg
    · rw [q2]; exact hf
    · exact x3 j (by omega) b
theorem own_oN1 {F : Nat → Int32} {se e r : Int32} (hr : own_rt F se e r) (h : ¬ r < (3 : Int32)) : own_isnf F se e r := by
  obtain ⟨r1, r2, r3⟩ := hr
  rw [Int32.lt_iff_toInt_lt, own_k3] at h
  exact ⟨r1, r2, fun z => absurd z h, r3⟩
theorem own_oN2 {F : Nat → Int32} {se e r : Int32} (hr : own_rt F se e r) (h : ¬ F r.toNatClampNeg = se) : own_isnf F se e r := by
  obtain ⟨r1, r2, r3⟩ := hr
  exact ⟨r1, r2, fun _ => h, r3⟩
/-- the way back: at lies between, what lies below e is as it was -/
def own_wb (F X0 X : Nat → Int32) (se e r a : Int32) : Prop := own_isnf F se e r ∧ e.toInt ≤ a.toInt ∧ a.toInt ≤ r.toInt ∧ own_inv F X se e ∧ ∀ i : Nat, (i : Int) < e.toInt → X i = X0 i
theorem own_wE {F X : Nat → Int32} {se e r : Int32} (hp : own_okO F X se e) (h : own_isnf F se e r) : own_wb F X X se e r e := ⟨h, Int.le_refl _, h.1, hp.2.2, fun _ _ => rfl⟩
theorem own_w3 {F X0 X : Nat → Int32} {se e r a : Int32} (h0 : 0 ≤ e.toInt) (h : own_wb F X0 X se e r a) (q : ¬ a = r) : a < (3 : Int32) := by
  obtain ⟨⟨a1, a2, a3, a4⟩, b1, b2, b3, b4⟩ := h
  have : a.toInt ≠ r.toInt := fun z => q (Int32.toInt_inj.mp z)
  rw [Int32.lt_iff_toInt_lt, own_k3]; omega
theorem own_wB {F X0 X X' : Nat → Int32} {se e r a : Int32} (h0 : 0 ≤ e.toInt) (h : own_wb F X0 X se e r a) (q : ¬ a = r) (hX : X' = own_set X a r) : (r.toInt - (X a.toNatClampNeg).toInt).toNat < (r.toInt - a.toInt).toNat ∧ own_wb F X0 X' se e r (X a.toNatClampNeg) := by
  obtain ⟨⟨a1, a2, a3, a4⟩, b1, b2, b3, b4⟩ := h
  have ne : a.toInt ≠ r.toInt := fun z => q (Int32.toInt_inj.mp z)
  have c1 : a.toNatClampNeg = a.toInt.toNat := rfl
  have c2 : r.toNatClampNeg = r.toInt.toNat := rfl
  obtain ⟨x1, x2, x3⟩ := b3 a.toNatClampNeg (by omega) (by omega) (a4 _ (by omega) (by omega))
  have le : (X a.toNatClampNeg).toInt ≤ r.toInt := by
    refine Int.not_lt.mp fun z => ?_
    exact a3 (by omega) (x3 r.toNatClampNeg (by omega) (by omega))
  subst hX
  refine ⟨by omega, ⟨a1, a2, a3, a4⟩, by omega, le, ?_, ?_⟩
  · intro i i1 i2 i3
    simp only [own_set]
    split
    · rename_i ei
      exact ⟨by omega, a2, fun j j1 j2 => a4 j (by omega) j2⟩
    · exact b3 i i1 i2 i3
  · intro i i1
    simp only [own_set]
    rw [if_neg (by omega)]
    exact b4 i i1
theorem own_wR {F X0 X : Nat → Int32} {se e r a : Int32} (hp : own_okO F X0 se e) (h : own_wb F X0 X se e r a) : r = own_nf F se e := own_nfu hp.1 h.1 (own_nfis F se e ⟨hp.1, hp.2.1⟩)
/-! find -/
def own_ct (F : Nat → Int32) (se : Int32) : Int := (if F 0 = se then (1 : Int) else 0) + (if F 1 = se then 1 else 0) + (if F 2 = se then 1 else 0)
def own_ok (se c : Int32) (F D : Nat → Int32) : Prop := c.toInt = own_ct F se ∧ ∀ i : Nat, (i : Int) < c.toInt → 0 ≤ (D i).toInt ∧ (D i).toInt < 3
def own_en (F : Nat → Int32) (se e : Int32) : Prop := 0 ≤ e.toInt ∧ e.toInt ≤ 3 ∧ (e.toInt < 3 → ¬ F e.toNatClampNeg = se)
def own_R (N : Nat → Int32) (hi fo se : Int32) : Nat → Int32 → Int32 → (Nat → Int32) → (Nat → Int32) → Int32 × (Nat → Int32) × (Nat → Int32)
  | 0, _, c, F, D => (c, F, D)
  | k + 1, e, c, F, D => if e < (3 : Int32) then (if hi < N e.toNatClampNeg then (c, F, D) else if own_f15 fo c = (0 : Int32) then own_R N hi fo se k (own_nf (own_set F e se) se (e + (1 : Int32))) (c + (1 : Int32)) (own_set F e se) (own_set D c e) else (c, F, D)) else (c, F, D)
def own_find (p1 p2 sh nB : Int32) (gB gN : Nat → Int32) (fo se fc : Int32) (gF gD : Nat → Int32) : Int32 × (Nat → Int32) × (Nat → Int32) := own_R gN p2 fo se 3 (own_nf gF se (own_f8 p1 sh nB gB gN)) fc gF gD
theorem own_enn {F : Nat → Int32} {se e : Int32} (h : 0 ≤ e.toInt ∧ e.toInt ≤ 3) : own_en F se (own_nf F se e) := by
  obtain ⟨a1, a2, a3, a4⟩ := own_nfis F se e h
  exact ⟨by omega, a2, a3⟩
theorem own_e3 {F : Nat → Int32} {se e : Int32} (h : own_en F se e) (q : e < (3 : Int32)) : e.toInt < 3 ∧ (e + (1 : Int32)).toInt = e.toInt + 1 ∧ ¬ F e.toNatClampNeg = se ∧ e.toNatClampNeg < 3 ∧ (e.toNatClampNeg : Int) = e.toInt := by
  rw [Int32.lt_iff_toInt_lt, own_k3] at q
  obtain ⟨h0, h1, h2⟩ := h
  have a := c_iadd e 1
  have r := rng32 (e + 1)
  have c1 : e.toNatClampNeg = e.toInt.toNat := rfl
  rw [own_k1] at a
  exact ⟨q, by omega, h2 q, by omega, by omega⟩
theorem own_ctle {F : Nat → Int32} {se e : Int32} (h : own_en F se e) (q : e < (3 : Int32)) : 0 ≤ own_ct F se ∧ own_ct F se < 3 ∧ own_ct (own_set F e se) se = own_ct F se + 1 := by
  obtain ⟨q1, -, q2, q3, q4⟩ := own_e3 h q
  unfold own_ct own_set
  generalize e.toNatClampNeg = n at *
  rcases (show n = 0 ∨ n = 1 ∨ n = 2 by omega) with rfl | rfl | rfl
  · simp only [if_neg q2, if_true, show ¬ (1 : Nat) = 0 by decide, show ¬ (2 : Nat) = 0 by decide, if_false]
    (repeat' split) <;> omega
  · simp only [if_neg q2, if_true, show ¬ (0 : Nat) = 1 by decide, show ¬ (2 : Nat) = 1 by decide, if_false]
    (repeat' split) <;> omega
  · simp only [if_neg q2, if_true, show ¬ (0 : Nat) = 2 by decide, show ¬ (1 : Nat) = 2 by decide, if_false]
    (repeat' split) <;> omega
theorem own_okst {F D : Nat → Int32} {se c e : Int32} (h : own_en F se e) (q : e < (3 : Int32)) (k : own_ok se c F D) : own_ok se (c + (1 : Int32)) (own_set F e se) (own_set D c e) := by
  obtain ⟨t0, t1, t2⟩ := own_ctle h q
  obtain ⟨q1, -, q2, q3, q4⟩ := own_e3 h q
  obtain ⟨k1, k2⟩ := k
  have a := c_iadd c 1
  have r := rng32 (c + 1)
  rw [own_k1] at a
  have cc : c.toNatClampNeg = c.toInt.toNat := rfl
  have e1 : (c + (1 : Int32)).toInt = c.toInt + 1 := by omega
  refine ⟨by omega, fun i hi => ?_⟩
  simp only [own_set]
  split
  · omega
  · exact k2 i (by omega)
theorem own_fcb {F D : Nat → Int32} {se c e : Int32} (h : own_en F se e) (q : e < (3 : Int32)) (k : own_ok se c F D) : ¬ c < 0 ∧ c < (3 : Int32) := by
  obtain ⟨t0, t1, t2⟩ := own_ctle h q
  obtain ⟨k1, k2⟩ := k
  simp only [Int32.lt_iff_toInt_lt, own_k0, own_k3]
  omega
theorem own_fO {F F' X : Nat → Int32} {se e : Int32} (h : own_en F se e) (q : e < (3 : Int32)) (hX : own_inv F X se 0) (hF : F' = own_set F e se) : own_okO F' X se (e + (1 : Int32)) := by
  obtain ⟨q1, q5, q2, q3, q4⟩ := own_e3 h q
  refine ⟨by have := h.1; omega, by omega, ?_⟩
  subst hF
  intro i i1 i2 i3
  simp only [own_set] at i3 ⊢
  rw [if_neg (by omega)] at i3
  obtain ⟨x1, x2, x3⟩ := hX i (by rw [own_k0]; omega) i2 i3
  refine ⟨x1, x2, fun j j1 j2 => ?_⟩
  rw [if_neg (by omega)]
  exact x3 j j1 j2
theorem own_fX {F F' X Y X' : Nat → Int32} {se e : Int32} (h : own_en F se e) (q : e < (3 : Int32)) (hX : own_inv F X se 0) (hF : F' = own_set F e se) (hY : own_inv F' Y se (e + (1 : Int32)) ∧ ∀ i : Nat, (i : Int) < (e + (1 : Int32)).toInt → Y i = X i) (hX' : X' = own_set Y e (own_nf F' se (e + (1 : Int32)))) : own_inv F' X' se 0 := by
  obtain ⟨q1, q5, q2, q3, q4⟩ := own_e3 h q
  obtain ⟨n1, n2, n3, n4⟩ := own_nfis F' se (e + 1) ⟨by have := h.1; omega, by omega⟩
  intro i i1 i2 i3
  rw [hX']
  simp only [own_set]
  split
  · rename_i ei
    exact ⟨by omega, n2, fun j j1 j2 => n4 j (by omega) j2⟩
  · rename_i ei
    by_cases lt : (i : Int) < e.toInt
    · rw [hY.2 i (by omega)]
      have i4 : F i = se := by rw [hF] at i3; simp only [own_set] at i3; rw [if_neg ei] at i3; exact i3
      obtain ⟨x1, x2, x3⟩ := hX i i1 i2 i4
      refine ⟨x1, x2, fun j j1 j2 => ?_⟩
      rw [hF]; simp only [own_set]
      split
      · rfl
      · exact x3 j j1 j2
    · exact hY.1 i (by omega) i2 i3
def own_Rk (N : Nat → Int32) (hi fo se e c : Int32) (F D : Nat → Int32) (R0 : Int32 × (Nat → Int32) × (Nat → Int32)) : Prop := ∃ k : Nat, 3 - e.toInt ≤ k ∧ own_R N hi fo se k e c F D = R0
theorem own_R0 (N : Nat → Int32) (hi fo se e c : Int32) (F D : Nat → Int32) (h : 0 ≤ e.toInt) : own_Rk N hi fo se e c F D (own_R N hi fo se 3 e c F D) := ⟨3, by omega, rfl⟩
theorem own_Rs {N : Nat → Int32} {hi fo se e c : Int32} {F D F' D' : Nat → Int32} {R0 : Int32 × (Nat → Int32) × (Nat → Int32)} (h : own_en F se e) (q : e < (3 : Int32)) (q1 : ¬ hi < N e.toNatClampNeg) (q2 : own_f15 fo c = (0 : Int32)) (hF : F' = own_set F e se) (hD : D' = own_set D c e) (hR : own_Rk N hi fo se e c F D R0) : own_Rk N hi fo se (own_nf F' se (e + (1 : Int32))) (c + (1 : Int32)) F' D' R0 := by
  obtain ⟨q1', q5, q2', q3, q4⟩ := own_e3 h q
  obtain ⟨k, k1, k2⟩ := hR
  obtain ⟨n1, n2, n3, n4⟩ := own_nfis F' se (e + 1) ⟨by have := h.1; omega, by omega⟩
  obtain ⟨k, rfl⟩ : ∃ j, k = j + 1 := ⟨k - 1, by omega⟩
  subst hF hD
  refine ⟨k, by omega, ?_⟩
  rw [← k2]
  show _ = (if e < (3 : Int32) then _ else _)
  rw [if_pos q, if_neg q1, if_pos q2]
theorem own_Rend {N : Nat → Int32} {hi fo se e c : Int32} {F D : Nat → Int32} {R0 : Int32 × (Nat → Int32) × (Nat → Int32)} (hR : own_Rk N hi fo se e c F D R0) (q : ¬ e < (3 : Int32) ∨ hi < N e.toNatClampNeg ∨ ¬ own_f15 fo c = (0 : Int32)) : R0 = (c, F, D) := by
  obtain ⟨k, k1, k2⟩ := hR
  rw [← k2]
  cases k with
  | zero => rfl
  | succ k =>
    show (if e < (3 : Int32) then _ else _) = _
    by_cases a : e < (3 : Int32)
    · rw [if_pos a]
      by_cases b : hi < N e.toNatClampNeg
      · rw [if_pos b]
      · rw [if_neg b, if_neg (by rcases q with q | q | q; exact absurd a q; exact absurd q b; exact q)]
    · rw [if_neg a]
theorem own_Rm {F D : Nat → Int32} {se e e' : Int32} {F' : Nat → Int32} (h : own_en F se e) (q : e < (3 : Int32)) : (3 - (own_nf F' se (e + (1 : Int32))).toInt).toNat < (3 - e.toInt).toNat := by
  obtain ⟨q1', q5, q2', q3, q4⟩ := own_e3 h q
  obtain ⟨n1, n2, n3, n4⟩ := own_nfis F' se (e + 1) ⟨by have := h.1; omega, by omega⟩
  omega
theorem own_en1 {F F' : Nat → Int32} {se e : Int32} (h : own_en F se e) (q : e < (3 : Int32)) : own_en F' se (own_nf F' se (e + (1 : Int32))) := by
  obtain ⟨q1', q5, q2', q3, q4⟩ := own_e3 h q
  exact own_enn ⟨by have := h.1; omega, by omega⟩
theorem own_nneg {F : Nat → Int32} {se e : Int32} (h : own_en F se e) : ¬ e < (0 : Int32) := by rw [Int32.lt_iff_toInt_lt, own_k0]; have := h.1; omega
theorem own_S03 {p1 sh nB : Int32} {gB gN : Nat → Int32} (h : own_okS p1 sh nB gB gN) : 0 ≤ (own_f8 p1 sh nB gB gN).toInt ∧ (own_f8 p1 sh nB gB gN).toInt ≤ 3 := by
  obtain ⟨-, r, hr, h3⟩ := h; omega
theorem own_Rok (N : Nat → Int32) (hi fo se : Int32) : ∀ (k : Nat) (e c : Int32) (F D : Nat → Int32), own_en F se e → own_ok se c F D → own_ok se (own_R N hi fo se k e c F D).1 (own_R N hi fo se k e c F D).2.1 (own_R N hi fo se k e c F D).2.2 := by
  intro k
  induction k with
  | zero => intro e c F D _ h; exact h
  | succ k ih =>
    intro e c F D he h
    simp only [own_R]
    split
    · split
      · exact h
      · split
        · exact ih _ _ _ _ (own_en1 he ‹_›) (own_okst he ‹_› h)
        · exact h
    · exact h
/-! foundElements -/
def own_fe (c : Int32) (D : Nat → Int32) : Prop := 0 ≤ c.toInt ∧ c.toInt ≤ 3 ∧ ∀ i : Nat, (i : Int) < c.toInt → 0 ≤ (D i).toInt ∧ (D i).toInt < 3
theorem own_feok {se c : Int32} {F D : Nat → Int32} (h : own_ok se c F D) : own_fe c D := by
  obtain ⟨h1, h2⟩ := h
  have : 0 ≤ own_ct F se ∧ own_ct F se ≤ 3 := by unfold own_ct; (repeat' split) <;> omega
  exact ⟨by omega, by omega, h2⟩
theorem own_feite {q : Prop} [Decidable q] {c c' : Int32} {D D' : Nat → Int32} (h : own_fe c D) (h' : own_fe c' D') : own_fe (if q then c else c') (if q then D else D') := by
  split
  · exact h
  · exact h'
theorem own_feneg {c : Int32} {D : Nat → Int32} (h : own_fe c D) : ¬ c < 0 := by rw [Int32.lt_iff_toInt_lt, own_k0]; have := h.1; omega
theorem own_fecap {c : Int32} {D : Nat → Int32} (h : own_fe c D) : c.toNatClampNeg ≤ 3 := by have := h.2.1; show c.toInt.toNat ≤ 3; omega
def own_fl (c : Int32) (E D G : Nat → Int32) (i : Int32) : Prop := 0 ≤ i.toInt ∧ i.toInt ≤ c.toInt ∧ ∀ j : Nat, (j : Int) < i.toInt → G j = E (D j).toNatClampNeg
theorem own_fl0 {c : Int32} {E D G : Nat → Int32} (h : own_fe c D) : own_fl c E D G 0 := ⟨by rw [own_k0]; omega, by rw [own_k0]; exact h.1, fun j q => by rw [own_k0] at q; omega⟩
theorem own_flb {c : Int32} {E D G : Nat → Int32} {i : Int32} (h : own_fe c D) (k : own_fl c E D G i) (q : i < c) : (¬ i < 0 ∧ i < (3 : Int32)) ∧ (¬ i < 0 ∧ i < c) ∧ (¬ D i.toNatClampNeg < 0 ∧ D i.toNatClampNeg < (3 : Int32)) := by
  have q' := q
  rw [Int32.lt_iff_toInt_lt] at q'
  obtain ⟨h1, h2, h3⟩ := h
  have cc : i.toNatClampNeg = i.toInt.toNat := rfl
  have a := k.1
  have d := h3 i.toNatClampNeg (by omega)
  simp only [Int32.lt_iff_toInt_lt, own_k0, own_k3]
  omega
theorem own_fls {c : Int32} {E D G G' : Nat → Int32} {i : Int32} (h : own_fe c D) (k : own_fl c E D G i) (q : i < c) (hG : G' = own_set G i (E (D i.toNatClampNeg).toNatClampNeg)) : (c.toInt - (i + (1 : Int32)).toInt).toNat < (c.toInt - i.toInt).toNat ∧ own_fl c E D G' (i + (1 : Int32)) := by
  rw [Int32.lt_iff_toInt_lt] at q
  obtain ⟨h1, h2, h3⟩ := h
  obtain ⟨k1, k2, k3⟩ := k
  have cc : i.toNatClampNeg = i.toInt.toNat := rfl
  have a := c_iadd i 1
  have r := rng32 (i + 1)
  rw [own_k1] at a
  have e1 : (i + (1 : Int32)).toInt = i.toInt + 1 := by omega
  refine ⟨by omega, by omega, by omega, fun j hj => ?_⟩
  rw [hG]
  simp only [own_set]
  split
  · rename_i ej; rw [ej]
  · exact k3 j (by omega)
theorem own_fle {c : Int32} {E D G : Nat → Int32} {i : Int32} (k : own_fl c E D G i) (q : ¬ i < c) : ∀ j : Nat, (j : Int) < c.toInt → G j = E (D j).toNatClampNeg := by
  rw [Int32.lt_iff_toInt_lt] at q
  exact fun j hj => k.2.2 j (by omega)
theorem own_fO0 {F X : Nat → Int32} {se e : Int32} (h : 0 ≤ e.toInt ∧ e.toInt ≤ 3) (hX : own_inv F X se 0) : own_okO F X se e := ⟨h.1, h.2, fun i i1 i2 i3 => hX i (by rw [own_k0]; omega) i2 i3⟩
theorem own_invz {F X Y : Nat → Int32} {se e : Int32} (h : 0 ≤ e.toInt) (hX : own_inv F X se 0) (hY : own_inv F Y se e) (hl : ∀ i : Nat, (i : Int) < e.toInt → Y i = X i) : own_inv F Y se 0 := by
  intro i i1 i2 i3
  by_cases q : (i : Int) < e.toInt
  · rw [hl i q]; exact hX i i1 i2 i3
  · exact hY i (by omega) i2 i3

theorem d9_0 : decode prog_2_method_21_code 0 = .ok (.iload_n 1, 1) := by decide +kernel
theorem d9_1 : decode prog_2_method_21_code 1 = .ok (.istore_n 2, 1) := by decide +kernel
theorem d9_2 : decode prog_2_method_21_code 2 = .ok (.iload_n 2, 1) := by decide +kernel
theorem d9_3 : decode prog_2_method_21_code 3 = .ok (.aload_n 0, 1) := by decide +kernel
theorem d9_4 : decode prog_2_method_21_code 4 = .ok (.getfield 17, 3) := by decide +kernel
theorem d9_7 : decode prog_2_method_21_code 7 = .ok (.arraylength, 1) := by decide +kernel
theorem d9_8 : decode prog_2_method_21_code 8 = .ok (.if_icmp .ge 26, 3) := by decide +kernel
theorem d9_11 : decode prog_2_method_21_code 11 = .ok (.aload_n 0, 1) := by decide +kernel
theorem d9_12 : decode prog_2_method_21_code 12 = .ok (.getfield 23, 3) := by decide +kernel
theorem d9_15 : decode prog_2_method_21_code 15 = .ok (.iload_n 2, 1) := by decide +kernel
theorem d9_16 : decode prog_2_method_21_code 16 = .ok (.iaload, 1) := by decide +kernel
theorem d9_17 : decode prog_2_method_21_code 17 = .ok (.aload_n 0, 1) := by decide +kernel
theorem d9_18 : decode prog_2_method_21_code 18 = .ok (.getfield 7, 3) := by decide +kernel
theorem d9_21 : decode prog_2_method_21_code 21 = .ok (.if_icmp .ne 13, 3) := by decide +kernel
theorem d9_24 : decode prog_2_method_21_code 24 = .ok (.aload_n 0, 1) := by decide +kernel
theorem d9_25 : decode prog_2_method_21_code 25 = .ok (.getfield 26, 3) := by decide +kernel
theorem d9_28 : decode prog_2_method_21_code 28 = .ok (.iload_n 2, 1) := by decide +kernel
theorem d9_29 : decode prog_2_method_21_code 29 = .ok (.iaload, 1) := by decide +kernel
theorem d9_30 : decode prog_2_method_21_code 30 = .ok (.istore_n 2, 1) := by decide +kernel
theorem d9_31 : decode prog_2_method_21_code 31 = .ok (.goto (-29), 3) := by decide +kernel
theorem d9_34 : decode prog_2_method_21_code 34 = .ok (.iload_n 1, 1) := by decide +kernel
theorem d9_35 : decode prog_2_method_21_code 35 = .ok (.istore_n 3, 1) := by decide +kernel
theorem d9_36 : decode prog_2_method_21_code 36 = .ok (.iload_n 3, 1) := by decide +kernel
theorem d9_37 : decode prog_2_method_21_code 37 = .ok (.iload_n 2, 1) := by decide +kernel
theorem d9_38 : decode prog_2_method_21_code 38 = .ok (.if_icmp .eq 24, 3) := by decide +kernel
theorem d9_41 : decode prog_2_method_21_code 41 = .ok (.aload_n 0, 1) := by decide +kernel
theorem d9_42 : decode prog_2_method_21_code 42 = .ok (.getfield 26, 3) := by decide +kernel
theorem d9_45 : decode prog_2_method_21_code 45 = .ok (.iload_n 3, 1) := by decide +kernel
theorem d9_46 : decode prog_2_method_21_code 46 = .ok (.iaload, 1) := by decide +kernel
theorem d9_47 : decode prog_2_method_21_code 47 = .ok (.istore 4, 2) := by decide +kernel
theorem d9_49 : decode prog_2_method_21_code 49 = .ok (.aload_n 0, 1) := by decide +kernel
theorem d9_50 : decode prog_2_method_21_code 50 = .ok (.getfield 26, 3) := by decide +kernel
theorem d9_53 : decode prog_2_method_21_code 53 = .ok (.iload_n 3, 1) := by decide +kernel
theorem d9_54 : decode prog_2_method_21_code 54 = .ok (.iload_n 2, 1) := by decide +kernel
theorem d9_55 : decode prog_2_method_21_code 55 = .ok (.iastore, 1) := by decide +kernel
theorem d9_56 : decode prog_2_method_21_code 56 = .ok (.iload 4, 2) := by decide +kernel
theorem d9_58 : decode prog_2_method_21_code 58 = .ok (.istore_n 3, 1) := by decide +kernel
theorem d9_59 : decode prog_2_method_21_code 59 = .ok (.goto (-23), 3) := by decide +kernel
theorem d9_62 : decode prog_2_method_21_code 62 = .ok (.iload_n 2, 1) := by decide +kernel
theorem d9_63 : decode prog_2_method_21_code 63 = .ok (.ireturn, 1) := by decide +kernel
theorem pn_9 : plainName "com/example/reachability/reachability/CandidateList" = true := by first | (simp [plainName, overriddenIn]; done) | decide +kernel
theorem ef_9 (m : MethodId) (r0 : Addr) (p1 : Int32) : entryFrame m #[(.ref r0), (.int p1)] 5 = mkF m 0 #[.val (.ref r0), .val (.int p1), .unset, .unset, .unset] [] := by first | (simp [entryFrame, mkF, argsToLocals, Value.category]; done) | rfl
def rm9_room : Room := { frames := 0, cells := 0, slots := 0, locals := 0 }
def Qrm9 (Z : State) (r0 : Addr) (p1 : Int32) (xN : Addr) (gN : Nat → Int32) (xF : Addr) (gF : Nat → Int32) (xX : Addr) (gX : Nat → Int32) (se : Int32) (h0 : Heap) (n0 : Nat) (v : Option Value) (h : Heap) (L : List Loc) : Prop := ∃ gY : Nat → Int32, v = some (.int (own_nf gF se p1)) ∧ Fr n0 L ∧ Keep h0 h [xX] ∧ own_Arf Z h xX .int (3 : Int32) (fun i => .int (gY i)) ∧ own_inv gF gY se p1 ∧ ∀ i : Nat, (i : Int) < p1.toInt → gY i = gX i
set_option maxRecDepth 65536 in
set_option maxHeartbeats 40000000 in
theorem rm9 (l : Launch) (Z : State) (a0 : Array Value) (hw : ∀ d ∈ tables_1, d.before a0 Z = true) (ws : List Jvm.Cond) (r0 : Addr) (p1 : Int32) (xN : Addr) (gN : Nat → Int32) (xF : Addr) (gF : Nat → Int32) (xX : Addr) (gX : Nat → Int32) (se : Int32) (h0 : Heap) (n0 : Nat) (Z0 : n0 ≤ h0.size) (F_numbers_r0_0 : Fld Z h0 r0 "com/example/reachability/reachability/CandidateList" "numbers" "[I" (.ref xN)) (A_xN_0 : own_Arf Z h0 xN .int (3 : Int32) (fun i => .int (gN i))) (F_foundIn_r0_0 : Fld Z h0 r0 "com/example/reachability/reachability/CandidateList" "foundIn" "[I" (.ref xF)) (A_xF_0 : own_Arf Z h0 xF .int (3 : Int32) (fun i => .int (gF i))) (F_next_r0_0 : Fld Z h0 r0 "com/example/reachability/reachability/CandidateList" "next" "[I" (.ref xX)) (A_xX_0 : own_Arf Z h0 xX .int (3 : Int32) (fun i => .int (gX i))) (F_search_r0_0 : Fld Z h0 r0 "com/example/reachability/reachability/CandidateList" "search" "I" (.int se)) (E_r0_0 : Exa Z h0 r0 "com/example/reachability/reachability/CandidateList") (ge_xX : n0 ≤ xX) (ne_xN_xX : xN ≠ xX) (ne_xF_xX : xF ≠ xX) (hp : own_okO gF gX se p1) :
    MetFree l (⟨"com/example/reachability/reachability/CandidateList", "open", "(I)I"⟩ : MethodName) (head1 (Jvm.Cond.code (⟨"com/example/reachability/reachability/CandidateList", "open", "(I)I"⟩ : MethodName) prog_2_method_21_code 5 (some .int) :: ws) rm9_room) (fun a U => a = #[(.ref r0), (.int p1)] ∧ Z.Warmed39 U.vm ∧ U.heap = h0) (fun _ _ _ _ _ => True) (fun _ U o U' => ∃ v L, o = .returned v ∧ Qrm9 Z r0 p1 xN gN xF gF xX gX se h0 n0 v U'.heap L ∧ FrameEnd U o U' L rm9_room.cells rm9_room.slots) := by
  refine MetFree.of_bodySF (plainFor_of_name pn_9) hisR ?_
  intro p e s m args below meth c s₁ Bd hml0 hP hK
  obtain ⟨rfl, hZ, hh⟩ := hP
  have hx := Bd.exec
  have hby := Bd.bytes
  have hml : c.maxLocals = 5 := hml0
  have hown : s.vm.findClass "com/example/reachability/reachability/CandidateList" = some m.cls := findClass_of_methodNamed Bd.named
  have hnm := (name_of_methodNamed Bd.named Bd.method).1
  have hlk : meth.locks = false := BodyLoose.notSynchronized Bd
  have X0 : Stand p l e rm9_room s m #[(.ref r0), (.int p1)] below meth c s₁ [] 0 0 := Stand.of_body Bd
  have e0 : s₁.heap = h0 := by rw [← hh, Bd.state]; rfl
  have N0 := Fr.nil n0
  show own_Fin p.tables e below s (Qrm9 Z r0 p1 xN gN xF gF xX gX se h0 n0) rm9_room.cells rm9_room.slots (s₁.setTop (entryFrame m #[(.ref r0), (.int p1)] 5))
  rw [ef_9]
  show own_Fin _ _ _ _ _ _ _ (s₁.setTop (mkF m 0 #[.val (.ref r0), .val (.int p1), .unset, .unset, .unset] []))
  have K0 := Keep.refl h0 [xX]
  refine own_go (fun _ k => XS.iloadN X0.here hx rfl (hb hby d9_0) rfl k) ?_
  show own_Fin _ _ _ _ _ _ _ (s₁.setTop (mkF m 1 #[.val (.ref r0), .val (.int p1), .unset, .unset, .unset] [(.int p1)]))
  refine own_go (fun _ k => XS.istoreN X0.here hx rfl (hb hby d9_1) rfl (l' := #[.val (.ref r0), .val (.int p1), .val (.int p1), .unset, .unset]) rfl k) ?_
  show own_Fin _ _ _ _ _ _ _ (s₁.setTop (mkF m 2 #[.val (.ref r0), .val (.int p1), .val (.int p1), .unset, .unset] []))
  have loopA : ∀ (kA : Nat) (ro : Int32) (TAL : State) (LAL : List Loc), kA = (3 - ro.toInt).toNat → own_rt gF se p1 ro → Stand p l e rm9_room s m #[(.ref r0), (.int p1)] below meth c TAL LAL 0 0 → Fr n0 LAL → TAL.heap = h0 → own_Fin p.tables e below s (Qrm9 Z r0 p1 xN gN xF gF xX gX se h0 n0) rm9_room.cells rm9_room.slots (TAL.setTop (mkF m 2 #[.val (.ref r0), .val (.int p1), .val (.int ro), .unset, .unset] [])) := by
    intro kA
    induction kA using Nat.strongRecOn with
    | _ kA ihA =>
      intro ro TAL LAL hkA hrt XAL NAL eAL
      show own_Fin _ _ _ _ _ _ _ (TAL.setTop (mkF m 2 #[.val (.ref r0), .val (.int p1), .val (.int ro), .unset, .unset] []))
      refine own_go (fun _ k => XS.iloadN XAL.here hx rfl (hb hby d9_2) rfl k) ?_
      show own_Fin _ _ _ _ _ _ _ (TAL.setTop (mkF m 3 #[.val (.ref r0), .val (.int p1), .val (.int ro), .unset, .unset] [(.int ro)]))
      refine own_go (fun _ k => XS.aloadN XAL.here hx rfl (hb hby d9_3) rfl rfl k) ?_
      show own_Fin _ _ _ _ _ _ _ (TAL.setTop (mkF m 4 #[.val (.ref r0), .val (.int p1), .val (.int ro), .unset, .unset] [(.ref r0), (.int ro)]))
      obtain ⟨T1, X1, e1, st1⟩ := getF XAL hx hZ hown (host := "") (Or.inl (hw _ (List.mem_of_getElem? (i := 14) rfl))) Via.refl eAL F_numbers_r0_0 (g := (mkF m 4 #[.val (.ref r0), .val (.int p1), .val (.int ro), .unset, .unset] [(.ref r0), (.int ro)])) rfl rfl (hb hby d9_4)
      refine own_go (fun tg k => st1 tg k) ?_
      show own_Fin _ _ _ _ _ _ _ (T1.setTop (mkF m 7 #[.val (.ref r0), .val (.int p1), .val (.int ro), .unset, .unset] [(.ref xN), (.int ro)]))
      refine own_go (fun tg k => own_alen X1 hx hZ e1 A_xN_0 (g := (mkF m 7 #[.val (.ref r0), .val (.int p1), .val (.int ro), .unset, .unset] [(.ref xN), (.int ro)])) rfl rfl (hb hby d9_7) tg k) ?_
      show own_Fin _ _ _ _ _ _ _ (T1.setTop (mkF m 8 #[.val (.ref r0), .val (.int p1), .val (.int ro), .unset, .unset] [(.int (3 : Int32)), (.int ro)]))
      by_cases hc2 : ro < (3 : Int32)
      · refine own_go (fun _ k => XS.icmpNo X1.here hx rfl (hb hby d9_8) rfl (tlt hc2).2.1 k) ?_
        show own_Fin _ _ _ _ _ _ _ (T1.setTop (mkF m 11 #[.val (.ref r0), .val (.int p1), .val (.int ro), .unset, .unset] []))
        refine own_go (fun _ k => XS.aloadN X1.here hx rfl (hb hby d9_11) rfl rfl k) ?_
        show own_Fin _ _ _ _ _ _ _ (T1.setTop (mkF m 12 #[.val (.ref r0), .val (.int p1), .val (.int ro), .unset, .unset] [(.ref r0)]))
        obtain ⟨T3, X3, e3, st3⟩ := getF X1 hx hZ hown (host := "") (Or.inl (hw _ (List.mem_of_getElem? (i := 18) rfl))) Via.refl e1 F_foundIn_r0_0 (g := (mkF m 12 #[.val (.ref r0), .val (.int p1), .val (.int ro), .unset, .unset] [(.ref r0)])) rfl rfl (hb hby d9_12)
        refine own_go (fun tg k => st3 tg k) ?_
        show own_Fin _ _ _ _ _ _ _ (T3.setTop (mkF m 15 #[.val (.ref r0), .val (.int p1), .val (.int ro), .unset, .unset] [(.ref xF)]))
        refine own_go (fun _ k => XS.iloadN X3.here hx rfl (hb hby d9_15) rfl k) ?_
        show own_Fin _ _ _ _ _ _ _ (T3.setTop (mkF m 16 #[.val (.ref r0), .val (.int p1), .val (.int ro), .unset, .unset] [(.int ro), (.ref xF)]))
        refine own_go (fun tg k => own_iaload X3 hx hZ e3 A_xF_0 (j := ro) (own_bd3 (Int.le_trans hp.1 hrt.1) hc2) (x := (gF ro.toNatClampNeg)) rfl (g := (mkF m 16 #[.val (.ref r0), .val (.int p1), .val (.int ro), .unset, .unset] [(.int ro), (.ref xF)])) rfl rfl (hb hby d9_16) tg k) ?_
        show own_Fin _ _ _ _ _ _ _ (T3.setTop (mkF m 17 #[.val (.ref r0), .val (.int p1), .val (.int ro), .unset, .unset] [(.int (gF ro.toNatClampNeg))]))
        refine own_go (fun _ k => XS.aloadN X3.here hx rfl (hb hby d9_17) rfl rfl k) ?_
        show own_Fin _ _ _ _ _ _ _ (T3.setTop (mkF m 18 #[.val (.ref r0), .val (.int p1), .val (.int ro), .unset, .unset] [(.ref r0), (.int (gF ro.toNatClampNeg))]))
        obtain ⟨T4, X4, e4, st4⟩ := getF X3 hx hZ hown (host := "") (Or.inl (hw _ (List.mem_of_getElem? (i := 10) rfl))) Via.refl e3 F_search_r0_0 (g := (mkF m 18 #[.val (.ref r0), .val (.int p1), .val (.int ro), .unset, .unset] [(.ref r0), (.int (gF ro.toNatClampNeg))])) rfl rfl (hb hby d9_18)
        refine own_go (fun tg k => st4 tg k) ?_
        show own_Fin _ _ _ _ _ _ _ (T4.setTop (mkF m 21 #[.val (.ref r0), .val (.int p1), .val (.int ro), .unset, .unset] [(.int se), (.int (gF ro.toNatClampNeg))]))
        by_cases hc5 : (gF ro.toNatClampNeg) = se
        · refine own_go (fun _ k => XS.icmpNo X4.here hx rfl (hb hby d9_21) rfl (teq hc5).2 k) ?_
          show own_Fin _ _ _ _ _ _ _ (T4.setTop (mkF m 24 #[.val (.ref r0), .val (.int p1), .val (.int ro), .unset, .unset] []))
          refine own_go (fun _ k => XS.aloadN X4.here hx rfl (hb hby d9_24) rfl rfl k) ?_
          show own_Fin _ _ _ _ _ _ _ (T4.setTop (mkF m 25 #[.val (.ref r0), .val (.int p1), .val (.int ro), .unset, .unset] [(.ref r0)]))
          obtain ⟨T6, X6, e6, st6⟩ := getF X4 hx hZ hown (host := "") (Or.inl (hw _ (List.mem_of_getElem? (i := 20) rfl))) Via.refl e4 F_next_r0_0 (g := (mkF m 25 #[.val (.ref r0), .val (.int p1), .val (.int ro), .unset, .unset] [(.ref r0)])) rfl rfl (hb hby d9_25)
          refine own_go (fun tg k => st6 tg k) ?_
          show own_Fin _ _ _ _ _ _ _ (T6.setTop (mkF m 28 #[.val (.ref r0), .val (.int p1), .val (.int ro), .unset, .unset] [(.ref xX)]))
          refine own_go (fun _ k => XS.iloadN X6.here hx rfl (hb hby d9_28) rfl k) ?_
          show own_Fin _ _ _ _ _ _ _ (T6.setTop (mkF m 29 #[.val (.ref r0), .val (.int p1), .val (.int ro), .unset, .unset] [(.int ro), (.ref xX)]))
          refine own_go (fun tg k => own_iaload X6 hx hZ e6 A_xX_0 (j := ro) (own_bd3 (Int.le_trans hp.1 hrt.1) hc2) (x := (gX ro.toNatClampNeg)) rfl (g := (mkF m 29 #[.val (.ref r0), .val (.int p1), .val (.int ro), .unset, .unset] [(.int ro), (.ref xX)])) rfl rfl (hb hby d9_29) tg k) ?_
          show own_Fin _ _ _ _ _ _ _ (T6.setTop (mkF m 30 #[.val (.ref r0), .val (.int p1), .val (.int ro), .unset, .unset] [(.int (gX ro.toNatClampNeg))]))
          refine own_go (fun _ k => XS.istoreN X6.here hx rfl (hb hby d9_30) rfl (l' := #[.val (.ref r0), .val (.int p1), .val (.int (gX ro.toNatClampNeg)), .unset, .unset]) rfl k) ?_
          show own_Fin _ _ _ _ _ _ _ (T6.setTop (mkF m 31 #[.val (.ref r0), .val (.int p1), .val (.int (gX ro.toNatClampNeg)), .unset, .unset] []))
          refine own_go (fun _ k => XS.goto X6.here hx rfl (pc0 := 31) (pc' := 2) rfl (hb hby d9_31) (by decide) (by decide) k) ?_
          show own_Fin _ _ _ _ _ _ _ (T6.setTop (mkF m 2 #[.val (.ref r0), .val (.int p1), .val (.int (gX ro.toNatClampNeg)), .unset, .unset] []))
          exact ihA _ (by subst hkA; exact (own_oB hp hrt hc2 hc5).1) ((gX ro.toNatClampNeg)) T6 _ rfl (own_oB hp hrt hc2 hc5).2 (own_mono X6 (by decide) (by decide)) NAL e6
        · refine own_go (fun _ k => XS.icmpYes X4.here hx rfl (pc0 := 21) (pc' := 34) rfl (hb hby d9_21) rfl (feq hc5).2 (by decide) (by decide) k) ?_
          show own_Fin _ _ _ _ _ _ _ (T4.setTop (mkF m 34 #[.val (.ref r0), .val (.int p1), .val (.int ro), .unset, .unset] []))
          refine own_go (fun _ k => XS.iloadN X4.here hx rfl (hb hby d9_34) rfl k) ?_
          show own_Fin _ _ _ _ _ _ _ (T4.setTop (mkF m 35 #[.val (.ref r0), .val (.int p1), .val (.int ro), .unset, .unset] [(.int p1)]))
          refine own_go (fun _ k => XS.istoreN X4.here hx rfl (hb hby d9_35) rfl (l' := #[.val (.ref r0), .val (.int p1), .val (.int ro), .val (.int p1), .unset]) rfl k) ?_
          show own_Fin _ _ _ _ _ _ _ (T4.setTop (mkF m 36 #[.val (.ref r0), .val (.int p1), .val (.int ro), .val (.int p1), .unset] []))
          have loopB : ∀ (kB : Nat) (aa : Int32) (X2 : Nat → Int32) (j4B : Slot) (TBL : State) (LBL : List Loc) (hBL : Heap), kB = (ro.toInt - aa.toInt).toNat → own_wb gF gX X2 se p1 ro aa → Stand p l e rm9_room s m #[(.ref r0), (.int p1)] below meth c TBL LBL 0 0 → Fr n0 LBL → TBL.heap = hBL → One j4B → n0 ≤ hBL.size → Keep h0 hBL [xX] → Fld Z hBL r0 "com/example/reachability/reachability/CandidateList" "numbers" "[I" (.ref xN) → own_Arf Z hBL xN .int (3 : Int32) (fun i => .int (gN i)) → Fld Z hBL r0 "com/example/reachability/reachability/CandidateList" "foundIn" "[I" (.ref xF) → own_Arf Z hBL xF .int (3 : Int32) (fun i => .int (gF i)) → Fld Z hBL r0 "com/example/reachability/reachability/CandidateList" "next" "[I" (.ref xX) → own_Arf Z hBL xX .int (3 : Int32) (fun i => .int (X2 i)) → Fld Z hBL r0 "com/example/reachability/reachability/CandidateList" "search" "I" (.int se) → Exa Z hBL r0 "com/example/reachability/reachability/CandidateList" → own_Fin p.tables e below s (Qrm9 Z r0 p1 xN gN xF gF xX gX se h0 n0) rm9_room.cells rm9_room.slots (TBL.setTop (mkF m 36 #[.val (.ref r0), .val (.int p1), .val (.int ro), .val (.int aa), j4B] [])) := by
            intro kB
            induction kB using Nat.strongRecOn with
            | _ kB ihB =>
              intro aa X2 j4B TBL LBL hBL hkB hw2 XBL NBL eBL hj4B ZBL KBL F_numbers_r0_BL A_xN_BL F_foundIn_r0_BL A_xF_BL F_next_r0_BL A_xX_BL F_search_r0_BL E_r0_BL
              show own_Fin _ _ _ _ _ _ _ (TBL.setTop (mkF m 36 #[.val (.ref r0), .val (.int p1), .val (.int ro), .val (.int aa), j4B] []))
              refine own_go (fun _ k => XS.iloadN XBL.here hx rfl (hb hby d9_36) rfl k) ?_
              show own_Fin _ _ _ _ _ _ _ (TBL.setTop (mkF m 37 #[.val (.ref r0), .val (.int p1), .val (.int ro), .val (.int aa), j4B] [(.int aa)]))
              refine own_go (fun _ k => XS.iloadN XBL.here hx rfl (hb hby d9_37) rfl k) ?_
              show own_Fin _ _ _ _ _ _ _ (TBL.setTop (mkF m 38 #[.val (.ref r0), .val (.int p1), .val (.int ro), .val (.int aa), j4B] [(.int ro), (.int aa)]))
              by_cases hc7 : aa = ro
              · refine own_go (fun _ k => XS.icmpYes XBL.here hx rfl (pc0 := 38) (pc' := 62) rfl (hb hby d9_38) rfl (teq hc7).1 (by decide) (by decide) k) ?_
                show own_Fin _ _ _ _ _ _ _ (TBL.setTop (mkF m 62 #[.val (.ref r0), .val (.int p1), .val (.int ro), .val (.int aa), j4B] []))
                refine own_go (fun _ k => XS.iloadN XBL.here hx rfl (hb hby d9_62) rfl k) ?_
                show own_Fin _ _ _ _ _ _ _ (TBL.setTop (mkF m 63 #[.val (.ref r0), .val (.int p1), .val (.int ro), .val (.int aa), j4B] [(.int ro)]))
                refine own_ret XBL hx hlk Bd.returns rfl (Or.inl ⟨rfl, by simp, _, rfl⟩) (hb hby d9_63) (Nat.le_of_ble_eq_true rfl) (Nat.le_of_ble_eq_true rfl) ?_
                rw [eBL]
                refine ⟨X2, ?_, NBL, KBL, ?_, ?_⟩
                · exact congrArg (fun z => some (Value.int z)) (own_wR hp hw2)
                · first | (exact A_xX_BL) | (simp only [if_pos hc2, if_neg hc5, if_pos hc7]; exact A_xX_BL)
                · first | (exact ⟨hw2.2.2.2.1, hw2.2.2.2.2⟩) | (simp only [if_pos hc2, if_neg hc5, if_pos hc7]; exact ⟨hw2.2.2.2.1, hw2.2.2.2.2⟩)
              · refine own_go (fun _ k => XS.icmpNo XBL.here hx rfl (hb hby d9_38) rfl (feq hc7).1 k) ?_
                show own_Fin _ _ _ _ _ _ _ (TBL.setTop (mkF m 41 #[.val (.ref r0), .val (.int p1), .val (.int ro), .val (.int aa), j4B] []))
                refine own_go (fun _ k => XS.aloadN XBL.here hx rfl (hb hby d9_41) rfl rfl k) ?_
                show own_Fin _ _ _ _ _ _ _ (TBL.setTop (mkF m 42 #[.val (.ref r0), .val (.int p1), .val (.int ro), .val (.int aa), j4B] [(.ref r0)]))
                obtain ⟨T8, X8, e8, st8⟩ := getF XBL hx hZ hown (host := "") (Or.inl (hw _ (List.mem_of_getElem? (i := 20) rfl))) Via.refl eBL F_next_r0_BL (g := (mkF m 42 #[.val (.ref r0), .val (.int p1), .val (.int ro), .val (.int aa), j4B] [(.ref r0)])) rfl rfl (hb hby d9_42)
                refine own_go (fun tg k => st8 tg k) ?_
                show own_Fin _ _ _ _ _ _ _ (T8.setTop (mkF m 45 #[.val (.ref r0), .val (.int p1), .val (.int ro), .val (.int aa), j4B] [(.ref xX)]))
                refine own_go (fun _ k => XS.iloadN X8.here hx rfl (hb hby d9_45) rfl k) ?_
                show own_Fin _ _ _ _ _ _ _ (T8.setTop (mkF m 46 #[.val (.ref r0), .val (.int p1), .val (.int ro), .val (.int aa), j4B] [(.int aa), (.ref xX)]))
                refine own_go (fun tg k => own_iaload X8 hx hZ e8 A_xX_BL (j := aa) (own_bd3 (Int.le_trans hp.1 hw2.2.1) (own_w3 hp.1 hw2 hc7)) (x := (X2 aa.toNatClampNeg)) rfl (g := (mkF m 46 #[.val (.ref r0), .val (.int p1), .val (.int ro), .val (.int aa), j4B] [(.int aa), (.ref xX)])) rfl rfl (hb hby d9_46) tg k) ?_
                show own_Fin _ _ _ _ _ _ _ (T8.setTop (mkF m 47 #[.val (.ref r0), .val (.int p1), .val (.int ro), .val (.int aa), j4B] [(.int (X2 aa.toNatClampNeg))]))
                refine own_go (fun _ k => XS.istoreS X8.here hx rfl (hb hby d9_47) rfl rfl hj4B k) ?_
                show own_Fin _ _ _ _ _ _ _ (T8.setTop (mkF m 49 #[.val (.ref r0), .val (.int p1), .val (.int ro), .val (.int aa), .val (.int (X2 aa.toNatClampNeg))] []))
                refine own_go (fun _ k => XS.aloadN X8.here hx rfl (hb hby d9_49) rfl rfl k) ?_
                show own_Fin _ _ _ _ _ _ _ (T8.setTop (mkF m 50 #[.val (.ref r0), .val (.int p1), .val (.int ro), .val (.int aa), .val (.int (X2 aa.toNatClampNeg))] [(.ref r0)]))
                obtain ⟨T9, X9, e9, st9⟩ := getF X8 hx hZ hown (host := "") (Or.inl (hw _ (List.mem_of_getElem? (i := 20) rfl))) Via.refl e8 F_next_r0_BL (g := (mkF m 50 #[.val (.ref r0), .val (.int p1), .val (.int ro), .val (.int aa), .val (.int (X2 aa.toNatClampNeg))] [(.ref r0)])) rfl rfl (hb hby d9_50)
                refine own_go (fun tg k => st9 tg k) ?_
                show own_Fin _ _ _ _ _ _ _ (T9.setTop (mkF m 53 #[.val (.ref r0), .val (.int p1), .val (.int ro), .val (.int aa), .val (.int (X2 aa.toNatClampNeg))] [(.ref xX)]))
                refine own_go (fun _ k => XS.iloadN X9.here hx rfl (hb hby d9_53) rfl k) ?_
                show own_Fin _ _ _ _ _ _ _ (T9.setTop (mkF m 54 #[.val (.ref r0), .val (.int p1), .val (.int ro), .val (.int aa), .val (.int (X2 aa.toNatClampNeg))] [(.int aa), (.ref xX)]))
                refine own_go (fun _ k => XS.iloadN X9.here hx rfl (hb hby d9_54) rfl k) ?_
                show own_Fin _ _ _ _ _ _ _ (T9.setTop (mkF m 55 #[.val (.ref r0), .val (.int p1), .val (.int ro), .val (.int aa), .val (.int (X2 aa.toNatClampNeg))] [(.int ro), (.int aa), (.ref xX)]))
                obtain ⟨T10, h10, X10, e10, W10, A_xX_10, st10⟩ := own_stI X9 hx hZ e9 A_xX_BL (j := aa) (own_bd3 (Int.le_trans hp.1 hw2.2.1) (own_w3 hp.1 hw2 hc7)) (g := (mkF m 55 #[.val (.ref r0), .val (.int p1), .val (.int ro), .val (.int aa), .val (.int (X2 aa.toNatClampNeg))] [(.int ro), (.int aa), (.ref xX)])) rfl rfl (hb hby d9_55)
                have F_numbers_r0_10 := F_numbers_r0_BL.other W10 (Or.inl (own_ne_arf E_r0_BL (hw _ (List.mem_of_getElem? (i := 1) rfl)) A_xX_BL))
                have A_xN_10 := A_xN_BL.other W10 ne_xN_xX
                have F_foundIn_r0_10 := F_foundIn_r0_BL.other W10 (Or.inl (own_ne_arf E_r0_BL (hw _ (List.mem_of_getElem? (i := 1) rfl)) A_xX_BL))
                have A_xF_10 := A_xF_BL.other W10 ne_xF_xX
                have F_next_r0_10 := F_next_r0_BL.other W10 (Or.inl (own_ne_arf E_r0_BL (hw _ (List.mem_of_getElem? (i := 1) rfl)) A_xX_BL))
                have F_search_r0_10 := F_search_r0_BL.other W10 (Or.inl (own_ne_arf E_r0_BL (hw _ (List.mem_of_getElem? (i := 1) rfl)) A_xX_BL))
                have E_r0_10 := E_r0_BL.wr W10
                have K10 := KBL.wr W10 (Or.inl (List.mem_of_getElem? (i := 0) rfl))
                have N10 := Fr.snoc X10 NBL ge_xX
                have Z10 : n0 ≤ h10.size := Nat.le_trans ZBL (Keep.of_wr W10).1
                obtain ⟨f10, hf10⟩ : ∃ z, z = (own_set X2 aa ro) := ⟨_, rfl⟩
                rw [← hf10] at A_xX_10
                refine own_go (fun tg k => st10 tg k) ?_
                show own_Fin _ _ _ _ _ _ _ (T10.setTop (mkF m 56 #[.val (.ref r0), .val (.int p1), .val (.int ro), .val (.int aa), .val (.int (X2 aa.toNatClampNeg))] []))
                refine own_go (fun _ k => XS.iload X10.here hx rfl (hb hby d9_56) rfl k) ?_
                show own_Fin _ _ _ _ _ _ _ (T10.setTop (mkF m 58 #[.val (.ref r0), .val (.int p1), .val (.int ro), .val (.int aa), .val (.int (X2 aa.toNatClampNeg))] [(.int (X2 aa.toNatClampNeg))]))
                refine own_go (fun _ k => XS.istoreN X10.here hx rfl (hb hby d9_58) rfl (l' := #[.val (.ref r0), .val (.int p1), .val (.int ro), .val (.int (X2 aa.toNatClampNeg)), .val (.int (X2 aa.toNatClampNeg))]) rfl k) ?_
                show own_Fin _ _ _ _ _ _ _ (T10.setTop (mkF m 59 #[.val (.ref r0), .val (.int p1), .val (.int ro), .val (.int (X2 aa.toNatClampNeg)), .val (.int (X2 aa.toNatClampNeg))] []))
                refine own_go (fun _ k => XS.goto X10.here hx rfl (pc0 := 59) (pc' := 36) rfl (hb hby d9_59) (by decide) (by decide) k) ?_
                show own_Fin _ _ _ _ _ _ _ (T10.setTop (mkF m 36 #[.val (.ref r0), .val (.int p1), .val (.int ro), .val (.int (X2 aa.toNatClampNeg)), .val (.int (X2 aa.toNatClampNeg))] []))
                exact ihB _ (by subst hkB; exact (own_wB hp.1 hw2 hc7 hf10).1) ((X2 aa.toNatClampNeg)) f10 (.val (.int (X2 aa.toNatClampNeg))) T10 _ h10 rfl (own_wB hp.1 hw2 hc7 hf10).2 (own_mono X10 (by decide) (by decide)) N10 e10 (One.val rfl) Z10 K10 F_numbers_r0_10 A_xN_10 F_foundIn_r0_10 A_xF_10 F_next_r0_10 A_xX_10 F_search_r0_10 E_r0_10
          exact loopB _ (p1) gX (.unset) T4 _ h0 rfl (own_wE hp (own_oN2 hrt hc5)) (own_mono X4 (by decide) (by decide)) NAL e4 One.u Z0 K0 F_numbers_r0_0 A_xN_0 F_foundIn_r0_0 A_xF_0 F_next_r0_0 A_xX_0 F_search_r0_0 E_r0_0
      · refine own_go (fun _ k => XS.icmpYes X1.here hx rfl (pc0 := 8) (pc' := 34) rfl (hb hby d9_8) rfl (flt hc2).2.1 (by decide) (by decide) k) ?_
        show own_Fin _ _ _ _ _ _ _ (T1.setTop (mkF m 34 #[.val (.ref r0), .val (.int p1), .val (.int ro), .unset, .unset] []))
        refine own_go (fun _ k => XS.iloadN X1.here hx rfl (hb hby d9_34) rfl k) ?_
        show own_Fin _ _ _ _ _ _ _ (T1.setTop (mkF m 35 #[.val (.ref r0), .val (.int p1), .val (.int ro), .unset, .unset] [(.int p1)]))
        refine own_go (fun _ k => XS.istoreN X1.here hx rfl (hb hby d9_35) rfl (l' := #[.val (.ref r0), .val (.int p1), .val (.int ro), .val (.int p1), .unset]) rfl k) ?_
        show own_Fin _ _ _ _ _ _ _ (T1.setTop (mkF m 36 #[.val (.ref r0), .val (.int p1), .val (.int ro), .val (.int p1), .unset] []))
        have loopB : ∀ (kB : Nat) (aa : Int32) (X2 : Nat → Int32) (j4B : Slot) (TBL : State) (LBL : List Loc) (hBL : Heap), kB = (ro.toInt - aa.toInt).toNat → own_wb gF gX X2 se p1 ro aa → Stand p l e rm9_room s m #[(.ref r0), (.int p1)] below meth c TBL LBL 0 0 → Fr n0 LBL → TBL.heap = hBL → One j4B → n0 ≤ hBL.size → Keep h0 hBL [xX] → Fld Z hBL r0 "com/example/reachability/reachability/CandidateList" "numbers" "[I" (.ref xN) → own_Arf Z hBL xN .int (3 : Int32) (fun i => .int (gN i)) → Fld Z hBL r0 "com/example/reachability/reachability/CandidateList" "foundIn" "[I" (.ref xF) → own_Arf Z hBL xF .int (3 : Int32) (fun i => .int (gF i)) → Fld Z hBL r0 "com/example/reachability/reachability/CandidateList" "next" "[I" (.ref xX) → own_Arf Z hBL xX .int (3 : Int32) (fun i => .int (X2 i)) → Fld Z hBL r0 "com/example/reachability/reachability/CandidateList" "search" "I" (.int se) → Exa Z hBL r0 "com/example/reachability/reachability/CandidateList" → own_Fin p.tables e below s (Qrm9 Z r0 p1 xN gN xF gF xX gX se h0 n0) rm9_room.cells rm9_room.slots (TBL.setTop (mkF m 36 #[.val (.ref r0), .val (.int p1), .val (.int ro), .val (.int aa), j4B] [])) := by
          intro kB
          induction kB using Nat.strongRecOn with
          | _ kB ihB =>
            intro aa X2 j4B TBL LBL hBL hkB hw2 XBL NBL eBL hj4B ZBL KBL F_numbers_r0_BL A_xN_BL F_foundIn_r0_BL A_xF_BL F_next_r0_BL A_xX_BL F_search_r0_BL E_r0_BL
            show own_Fin _ _ _ _ _ _ _ (TBL.setTop (mkF m 36 #[.val (.ref r0), .val (.int p1), .val (.int ro), .val (.int aa), j4B] []))
            refine own_go (fun _ k => XS.iloadN XBL.here hx rfl (hb hby d9_36) rfl k) ?_
            show own_Fin _ _ _ _ _ _ _ (TBL.setTop (mkF m 37 #[.val (.ref r0), .val (.int p1), .val (.int ro), .val (.int aa), j4B] [(.int aa)]))
            refine own_go (fun _ k => XS.iloadN XBL.here hx rfl (hb hby d9_37) rfl k) ?_
            show own_Fin _ _ _ _ _ _ _ (TBL.setTop (mkF m 38 #[.val (.ref r0), .val (.int p1), .val (.int ro), .val (.int aa), j4B] [(.int ro), (.int aa)]))
            by_cases hc11 : aa = ro
            · refine own_go (fun _ k => XS.icmpYes XBL.here hx rfl (pc0 := 38) (pc' := 62) rfl (hb hby d9_38) rfl (teq hc11).1 (by decide) (by decide) k) ?_
              show own_Fin _ _ _ _ _ _ _ (TBL.setTop (mkF m 62 #[.val (.ref r0), .val (.int p1), .val (.int ro), .val (.int aa), j4B] []))
              refine own_go (fun _ k => XS.iloadN XBL.here hx rfl (hb hby d9_62) rfl k) ?_
              show own_Fin _ _ _ _ _ _ _ (TBL.setTop (mkF m 63 #[.val (.ref r0), .val (.int p1), .val (.int ro), .val (.int aa), j4B] [(.int ro)]))
              refine own_ret XBL hx hlk Bd.returns rfl (Or.inl ⟨rfl, by simp, _, rfl⟩) (hb hby d9_63) (Nat.le_of_ble_eq_true rfl) (Nat.le_of_ble_eq_true rfl) ?_
              rw [eBL]
              refine ⟨X2, ?_, NBL, KBL, ?_, ?_⟩
              · exact congrArg (fun z => some (Value.int z)) (own_wR hp hw2)
              · first | (exact A_xX_BL) | (simp only [if_neg hc2, if_pos hc11]; exact A_xX_BL)
              · first | (exact ⟨hw2.2.2.2.1, hw2.2.2.2.2⟩) | (simp only [if_neg hc2, if_pos hc11]; exact ⟨hw2.2.2.2.1, hw2.2.2.2.2⟩)
            · refine own_go (fun _ k => XS.icmpNo XBL.here hx rfl (hb hby d9_38) rfl (feq hc11).1 k) ?_
              show own_Fin _ _ _ _ _ _ _ (TBL.setTop (mkF m 41 #[.val (.ref r0), .val (.int p1), .val (.int ro), .val (.int aa), j4B] []))
              refine own_go (fun _ k => XS.aloadN XBL.here hx rfl (hb hby d9_41) rfl rfl k) ?_
              show own_Fin _ _ _ _ _ _ _ (TBL.setTop (mkF m 42 #[.val (.ref r0), .val (.int p1), .val (.int ro), .val (.int aa), j4B] [(.ref r0)]))
              obtain ⟨T12, X12, e12, st12⟩ := getF XBL hx hZ hown (host := "") (Or.inl (hw _ (List.mem_of_getElem? (i := 20) rfl))) Via.refl eBL F_next_r0_BL (g := (mkF m 42 #[.val (.ref r0), .val (.int p1), .val (.int ro), .val (.int aa), j4B] [(.ref r0)])) rfl rfl (hb hby d9_42)
              refine own_go (fun tg k => st12 tg k) ?_
              show own_Fin _ _ _ _ _ _ _ (T12.setTop (mkF m 45 #[.val (.ref r0), .val (.int p1), .val (.int ro), .val (.int aa), j4B] [(.ref xX)]))
              refine own_go (fun _ k => XS.iloadN X12.here hx rfl (hb hby d9_45) rfl k) ?_
              show own_Fin _ _ _ _ _ _ _ (T12.setTop (mkF m 46 #[.val (.ref r0), .val (.int p1), .val (.int ro), .val (.int aa), j4B] [(.int aa), (.ref xX)]))
              refine own_go (fun tg k => own_iaload X12 hx hZ e12 A_xX_BL (j := aa) (own_bd3 (Int.le_trans hp.1 hw2.2.1) (own_w3 hp.1 hw2 hc11)) (x := (X2 aa.toNatClampNeg)) rfl (g := (mkF m 46 #[.val (.ref r0), .val (.int p1), .val (.int ro), .val (.int aa), j4B] [(.int aa), (.ref xX)])) rfl rfl (hb hby d9_46) tg k) ?_
              show own_Fin _ _ _ _ _ _ _ (T12.setTop (mkF m 47 #[.val (.ref r0), .val (.int p1), .val (.int ro), .val (.int aa), j4B] [(.int (X2 aa.toNatClampNeg))]))
              refine own_go (fun _ k => XS.istoreS X12.here hx rfl (hb hby d9_47) rfl rfl hj4B k) ?_
              show own_Fin _ _ _ _ _ _ _ (T12.setTop (mkF m 49 #[.val (.ref r0), .val (.int p1), .val (.int ro), .val (.int aa), .val (.int (X2 aa.toNatClampNeg))] []))
              refine own_go (fun _ k => XS.aloadN X12.here hx rfl (hb hby d9_49) rfl rfl k) ?_
              show own_Fin _ _ _ _ _ _ _ (T12.setTop (mkF m 50 #[.val (.ref r0), .val (.int p1), .val (.int ro), .val (.int aa), .val (.int (X2 aa.toNatClampNeg))] [(.ref r0)]))
              obtain ⟨T13, X13, e13, st13⟩ := getF X12 hx hZ hown (host := "") (Or.inl (hw _ (List.mem_of_getElem? (i := 20) rfl))) Via.refl e12 F_next_r0_BL (g := (mkF m 50 #[.val (.ref r0), .val (.int p1), .val (.int ro), .val (.int aa), .val (.int (X2 aa.toNatClampNeg))] [(.ref r0)])) rfl rfl (hb hby d9_50)
              refine own_go (fun tg k => st13 tg k) ?_
              show own_Fin _ _ _ _ _ _ _ (T13.setTop (mkF m 53 #[.val (.ref r0), .val (.int p1), .val (.int ro), .val (.int aa), .val (.int (X2 aa.toNatClampNeg))] [(.ref xX)]))
              refine own_go (fun _ k => XS.iloadN X13.here hx rfl (hb hby d9_53) rfl k) ?_
              show own_Fin _ _ _ _ _ _ _ (T13.setTop (mkF m 54 #[.val (.ref r0), .val (.int p1), .val (.int ro), .val (.int aa), .val (.int (X2 aa.toNatClampNeg))] [(.int aa), (.ref xX)]))
              refine own_go (fun _ k => XS.iloadN X13.here hx rfl (hb hby d9_54) rfl k) ?_
              show own_Fin _ _ _ _ _ _ _ (T13.setTop (mkF m 55 #[.val (.ref r0), .val (.int p1), .val (.int ro), .val (.int aa), .val (.int (X2 aa.toNatClampNeg))] [(.int ro), (.int aa), (.ref xX)]))
              obtain ⟨T14, h14, X14, e14, W14, A_xX_14, st14⟩ := own_stI X13 hx hZ e13 A_xX_BL (j := aa) (own_bd3 (Int.le_trans hp.1 hw2.2.1) (own_w3 hp.1 hw2 hc11)) (g := (mkF m 55 #[.val (.ref r0), .val (.int p1), .val (.int ro), .val (.int aa), .val (.int (X2 aa.toNatClampNeg))] [(.int ro), (.int aa), (.ref xX)])) rfl rfl (hb hby d9_55)
              have F_numbers_r0_14 := F_numbers_r0_BL.other W14 (Or.inl (own_ne_arf E_r0_BL (hw _ (List.mem_of_getElem? (i := 1) rfl)) A_xX_BL))
              have A_xN_14 := A_xN_BL.other W14 ne_xN_xX
              have F_foundIn_r0_14 := F_foundIn_r0_BL.other W14 (Or.inl (own_ne_arf E_r0_BL (hw _ (List.mem_of_getElem? (i := 1) rfl)) A_xX_BL))
              have A_xF_14 := A_xF_BL.other W14 ne_xF_xX
              have F_next_r0_14 := F_next_r0_BL.other W14 (Or.inl (own_ne_arf E_r0_BL (hw _ (List.mem_of_getElem? (i := 1) rfl)) A_xX_BL))
              have F_search_r0_14 := F_search_r0_BL.other W14 (Or.inl (own_ne_arf E_r0_BL (hw _ (List.mem_of_getElem? (i := 1) rfl)) A_xX_BL))
              have E_r0_14 := E_r0_BL.wr W14
              have K14 := KBL.wr W14 (Or.inl (List.mem_of_getElem? (i := 0) rfl))
              have N14 := Fr.snoc X14 NBL ge_xX
              have Z14 : n0 ≤ h14.size := Nat.le_trans ZBL (Keep.of_wr W14).1
              obtain ⟨f14, hf14⟩ : ∃ z, z = (own_set X2 aa ro) := ⟨_, rfl⟩
              rw [← hf14] at A_xX_14
              refine own_go (fun tg k => st14 tg k) ?_
              show own_Fin _ _ _ _ _ _ _ (T14.setTop (mkF m 56 #[.val (.ref r0), .val (.int p1), .val (.int ro), .val (.int aa), .val (.int (X2 aa.toNatClampNeg))] []))
              refine own_go (fun _ k => XS.iload X14.here hx rfl (hb hby d9_56) rfl k) ?_
              show own_Fin _ _ _ _ _ _ _ (T14.setTop (mkF m 58 #[.val (.ref r0), .val (.int p1), .val (.int ro), .val (.int aa), .val (.int (X2 aa.toNatClampNeg))] [(.int (X2 aa.toNatClampNeg))]))
              refine own_go (fun _ k => XS.istoreN X14.here hx rfl (hb hby d9_58) rfl (l' := #[.val (.ref r0), .val (.int p1), .val (.int ro), .val (.int (X2 aa.toNatClampNeg)), .val (.int (X2 aa.toNatClampNeg))]) rfl k) ?_
              show own_Fin _ _ _ _ _ _ _ (T14.setTop (mkF m 59 #[.val (.ref r0), .val (.int p1), .val (.int ro), .val (.int (X2 aa.toNatClampNeg)), .val (.int (X2 aa.toNatClampNeg))] []))
              refine own_go (fun _ k => XS.goto X14.here hx rfl (pc0 := 59) (pc' := 36) rfl (hb hby d9_59) (by decide) (by decide) k) ?_
              show own_Fin _ _ _ _ _ _ _ (T14.setTop (mkF m 36 #[.val (.ref r0), .val (.int p1), .val (.int ro), .val (.int (X2 aa.toNatClampNeg)), .val (.int (X2 aa.toNatClampNeg))] []))
              exact ihB _ (by subst hkB; exact (own_wB hp.1 hw2 hc11 hf14).1) ((X2 aa.toNatClampNeg)) f14 (.val (.int (X2 aa.toNatClampNeg))) T14 _ h14 rfl (own_wB hp.1 hw2 hc11 hf14).2 (own_mono X14 (by decide) (by decide)) N14 e14 (One.val rfl) Z14 K14 F_numbers_r0_14 A_xN_14 F_foundIn_r0_14 A_xF_14 F_next_r0_14 A_xX_14 F_search_r0_14 E_r0_14
        exact loopB _ (p1) gX (.unset) T1 _ h0 rfl (own_wE hp (own_oN1 hrt hc2)) (own_mono X1 (by decide) (by decide)) NAL e1 One.u Z0 K0 F_numbers_r0_0 A_xN_0 F_foundIn_r0_0 A_xF_0 F_next_r0_0 A_xX_0 F_search_r0_0 E_r0_0
  exact loopA _ (p1) s₁ _ rfl (own_oE hp) (own_mono X0 (by decide) (by decide)) N0 e0
theorem own_pd457 : parseMethodDescriptor "(I)I" = some ⟨[.int], some .int⟩ := by decide +kernel
theorem own_pd458 : parseMethodDescriptor "()Z" = some ⟨[], some .boolean⟩ := by decide +kernel
theorem d7_0 : decode prog_2_method_12_code 0 = .ok (.aload_n 0, 1) := by decide +kernel
theorem d7_1 : decode prog_2_method_12_code 1 = .ok (.aload_n 0, 1) := by decide +kernel
theorem d7_2 : decode prog_2_method_12_code 2 = .ok (.iload_n 1, 1) := by decide +kernel
theorem d7_3 : decode prog_2_method_12_code 3 = .ok (.invokevirtual 81, 3) := by decide +kernel
theorem d7_6 : decode prog_2_method_12_code 6 = .ok (.invokevirtual 84, 3) := by decide +kernel
theorem d7_9 : decode prog_2_method_12_code 9 = .ok (.istore_n 3, 1) := by decide +kernel
theorem d7_10 : decode prog_2_method_12_code 10 = .ok (.iload_n 3, 1) := by decide +kernel
theorem d7_11 : decode prog_2_method_12_code 11 = .ok (.aload_n 0, 1) := by decide +kernel
theorem d7_12 : decode prog_2_method_12_code 12 = .ok (.getfield 17, 3) := by decide +kernel
theorem d7_15 : decode prog_2_method_12_code 15 = .ok (.arraylength, 1) := by decide +kernel
theorem d7_16 : decode prog_2_method_12_code 16 = .ok (.if_icmp .ge 70, 3) := by decide +kernel
theorem d7_19 : decode prog_2_method_12_code 19 = .ok (.aload_n 0, 1) := by decide +kernel
theorem d7_20 : decode prog_2_method_12_code 20 = .ok (.getfield 17, 3) := by decide +kernel
theorem d7_23 : decode prog_2_method_12_code 23 = .ok (.iload_n 3, 1) := by decide +kernel
theorem d7_24 : decode prog_2_method_12_code 24 = .ok (.iaload, 1) := by decide +kernel
theorem d7_25 : decode prog_2_method_12_code 25 = .ok (.iload_n 2, 1) := by decide +kernel
theorem d7_26 : decode prog_2_method_12_code 26 = .ok (.if_icmp .gt 60, 3) := by decide +kernel
theorem d7_29 : decode prog_2_method_12_code 29 = .ok (.aload_n 0, 1) := by decide +kernel
theorem d7_30 : decode prog_2_method_12_code 30 = .ok (.invokevirtual 90, 3) := by decide +kernel
theorem d7_33 : decode prog_2_method_12_code 33 = .ok (.ifCond .ne 53, 3) := by decide +kernel
theorem d7_36 : decode prog_2_method_12_code 36 = .ok (.aload_n 0, 1) := by decide +kernel
theorem d7_37 : decode prog_2_method_12_code 37 = .ok (.getfield 23, 3) := by decide +kernel
theorem d7_40 : decode prog_2_method_12_code 40 = .ok (.iload_n 3, 1) := by decide +kernel
theorem d7_41 : decode prog_2_method_12_code 41 = .ok (.aload_n 0, 1) := by decide +kernel
theorem d7_42 : decode prog_2_method_12_code 42 = .ok (.getfield 7, 3) := by decide +kernel
theorem d7_45 : decode prog_2_method_12_code 45 = .ok (.iastore, 1) := by decide +kernel
theorem d7_46 : decode prog_2_method_12_code 46 = .ok (.aload_n 0, 1) := by decide +kernel
theorem d7_47 : decode prog_2_method_12_code 47 = .ok (.getfield 29, 3) := by decide +kernel
theorem d7_50 : decode prog_2_method_12_code 50 = .ok (.aload_n 0, 1) := by decide +kernel
theorem d7_51 : decode prog_2_method_12_code 51 = .ok (.dup, 1) := by decide +kernel
theorem d7_52 : decode prog_2_method_12_code 52 = .ok (.getfield 60, 3) := by decide +kernel
theorem d7_55 : decode prog_2_method_12_code 55 = .ok (.dup_x1, 1) := by decide +kernel
theorem d7_56 : decode prog_2_method_12_code 56 = .ok (.iconst 1, 1) := by decide +kernel
theorem d7_57 : decode prog_2_method_12_code 57 = .ok (.iadd, 1) := by decide +kernel
theorem d7_58 : decode prog_2_method_12_code 58 = .ok (.putfield 60, 3) := by decide +kernel
theorem d7_61 : decode prog_2_method_12_code 61 = .ok (.iload_n 3, 1) := by decide +kernel
theorem d7_62 : decode prog_2_method_12_code 62 = .ok (.iastore, 1) := by decide +kernel
theorem d7_63 : decode prog_2_method_12_code 63 = .ok (.aload_n 0, 1) := by decide +kernel
theorem d7_64 : decode prog_2_method_12_code 64 = .ok (.iload_n 3, 1) := by decide +kernel
theorem d7_65 : decode prog_2_method_12_code 65 = .ok (.iconst 1, 1) := by decide +kernel
theorem d7_66 : decode prog_2_method_12_code 66 = .ok (.iadd, 1) := by decide +kernel
theorem d7_67 : decode prog_2_method_12_code 67 = .ok (.invokevirtual 84, 3) := by decide +kernel
theorem d7_70 : decode prog_2_method_12_code 70 = .ok (.istore 4, 2) := by decide +kernel
theorem d7_72 : decode prog_2_method_12_code 72 = .ok (.aload_n 0, 1) := by decide +kernel
theorem d7_73 : decode prog_2_method_12_code 73 = .ok (.getfield 26, 3) := by decide +kernel
theorem d7_76 : decode prog_2_method_12_code 76 = .ok (.iload_n 3, 1) := by decide +kernel
theorem d7_77 : decode prog_2_method_12_code 77 = .ok (.iload 4, 2) := by decide +kernel
theorem d7_79 : decode prog_2_method_12_code 79 = .ok (.iastore, 1) := by decide +kernel
theorem d7_80 : decode prog_2_method_12_code 80 = .ok (.iload 4, 2) := by decide +kernel
theorem d7_82 : decode prog_2_method_12_code 82 = .ok (.istore_n 3, 1) := by decide +kernel
theorem d7_83 : decode prog_2_method_12_code 83 = .ok (.goto (-73), 3) := by decide +kernel
theorem d7_86 : decode prog_2_method_12_code 86 = .ok (.aload_n 0, 1) := by decide +kernel
theorem d7_87 : decode prog_2_method_12_code 87 = .ok (.iload_n 3, 1) := by decide +kernel
theorem d7_88 : decode prog_2_method_12_code 88 = .ok (.invokevirtual 87, 3) := by decide +kernel
theorem d7_91 : decode prog_2_method_12_code 91 = .ok (.ireturn, 1) := by decide +kernel
theorem pn_7 : plainName "com/example/reachability/reachability/CandidateList" = true := by first | (simp [plainName, overriddenIn]; done) | decide +kernel
theorem ef_7 (m : MethodId) (r0 : Addr) (p1 : Int32) (p2 : Int32) : entryFrame m #[(.ref r0), (.int p1), (.int p2)] 5 = mkF m 0 #[.val (.ref r0), .val (.int p1), .val (.int p2), .unset, .unset] [] := by first | (simp [entryFrame, mkF, argsToLocals, Value.category]; done) | rfl
def rm7_room : Room := { frames := 2, cells := 0, slots := 0, locals := 33 }
def Qrm7 (Z : State) (r0 : Addr) (p1 : Int32) (p2 : Int32) (xN : Addr) (xE : Addr) (xF : Addr) (xX : Addr) (xD : Addr) (sh : Int32) (xB : Addr) (se : Int32) (fo : Int32) (fc : Int32) (gN : Nat → Int32) (gF : Nat → Int32) (gX : Nat → Int32) (gD : Nat → Int32) (nB : Int32) (gB : Nat → Int32) (h0 : Heap) (n0 : Nat) (v : Option Value) (h : Heap) (L : List Loc) : Prop := ∃ vr : Int32, ∃ gY : Nat → Int32, v = some (.int vr) ∧ Fr n0 L ∧ Keep h0 h [r0, xF, xX, xD] ∧ Fld Z h r0 "com/example/reachability/reachability/CandidateList" "numbers" "[I" (.ref xN) ∧ Fld Z h r0 "com/example/reachability/reachability/CandidateList" "elements" "[I" (.ref xE) ∧ Fld Z h r0 "com/example/reachability/reachability/CandidateList" "foundIn" "[I" (.ref xF) ∧ Fld Z h r0 "com/example/reachability/reachability/CandidateList" "next" "[I" (.ref xX) ∧ Fld Z h r0 "com/example/reachability/reachability/CandidateList" "found" "[I" (.ref xD) ∧ Fld Z h r0 "com/example/reachability/reachability/CandidateList" "bucketShift" "I" (.int sh) ∧ Fld Z h r0 "com/example/reachability/reachability/CandidateList" "bucketStart" "[I" (.ref xB) ∧ Exa Z h r0 "com/example/reachability/reachability/CandidateList" ∧ Fld Z h r0 "com/example/reachability/reachability/CandidateList" "search" "I" (.int se) ∧ Fld Z h r0 "com/example/reachability/reachability/CandidateList" "foundCount" "I" (.int (own_find p1 p2 sh nB gB gN fo se fc gF gD).1) ∧ Fld Z h r0 "com/example/reachability/reachability/CandidateList" "firstOnly" "Z" (.int fo) ∧ own_Arf Z h xF .int (3 : Int32) (fun i => .int ((own_find p1 p2 sh nB gB gN fo se fc gF gD).2.1 i)) ∧ own_Arf Z h xX .int (3 : Int32) (fun i => .int (gY i)) ∧ own_Arf Z h xD .int (3 : Int32) (fun i => .int ((own_find p1 p2 sh nB gB gN fo se fc gF gD).2.2 i)) ∧ own_inv (own_find p1 p2 sh nB gB gN fo se fc gF gD).2.1 gY se 0 ∧ own_ok se (own_find p1 p2 sh nB gB gN fo se fc gF gD).1 (own_find p1 p2 sh nB gB gN fo se fc gF gD).2.1 (own_find p1 p2 sh nB gB gN fo se fc gF gD).2.2
set_option maxRecDepth 65536 in
set_option maxHeartbeats 40000000 in
theorem rm7 (l : Launch) (Z : State) (a0 : Array Value) (hw : ∀ d ∈ tables_1, d.before a0 Z = true) (ws : List Jvm.Cond) (r0 : Addr) (p1 : Int32) (p2 : Int32) (xN : Addr) (xE : Addr) (xF : Addr) (xX : Addr) (xD : Addr) (sh : Int32) (xB : Addr) (se : Int32) (fo : Int32) (fc : Int32) (gN : Nat → Int32) (gF : Nat → Int32) (gX : Nat → Int32) (gD : Nat → Int32) (nB : Int32) (gB : Nat → Int32) (h0 : Heap) (n0 : Nat) (Z0 : n0 ≤ h0.size) (F_numbers_r0_0 : Fld Z h0 r0 "com/example/reachability/reachability/CandidateList" "numbers" "[I" (.ref xN)) (F_elements_r0_0 : Fld Z h0 r0 "com/example/reachability/reachability/CandidateList" "elements" "[I" (.ref xE)) (F_foundIn_r0_0 : Fld Z h0 r0 "com/example/reachability/reachability/CandidateList" "foundIn" "[I" (.ref xF)) (F_next_r0_0 : Fld Z h0 r0 "com/example/reachability/reachability/CandidateList" "next" "[I" (.ref xX)) (F_found_r0_0 : Fld Z h0 r0 "com/example/reachability/reachability/CandidateList" "found" "[I" (.ref xD)) (F_bucketShift_r0_0 : Fld Z h0 r0 "com/example/reachability/reachability/CandidateList" "bucketShift" "I" (.int sh)) (F_bucketStart_r0_0 : Fld Z h0 r0 "com/example/reachability/reachability/CandidateList" "bucketStart" "[I" (.ref xB)) (E_r0_0 : Exa Z h0 r0 "com/example/reachability/reachability/CandidateList") (F_search_r0_0 : Fld Z h0 r0 "com/example/reachability/reachability/CandidateList" "search" "I" (.int se)) (F_foundCount_r0_0 : Fld Z h0 r0 "com/example/reachability/reachability/CandidateList" "foundCount" "I" (.int fc)) (F_firstOnly_r0_0 : Fld Z h0 r0 "com/example/reachability/reachability/CandidateList" "firstOnly" "Z" (.int fo)) (A_xN_0 : own_Arf Z h0 xN .int (3 : Int32) (fun i => .int (gN i))) (A_xF_0 : own_Arf Z h0 xF .int (3 : Int32) (fun i => .int (gF i))) (A_xX_0 : own_Arf Z h0 xX .int (3 : Int32) (fun i => .int (gX i))) (A_xD_0 : own_Arf Z h0 xD .int (3 : Int32) (fun i => .int (gD i))) (A_xB_0 : own_Arf Z h0 xB .int nB (fun i => .int (gB i))) (ge_r0 : n0 ≤ r0) (ge_xF : n0 ≤ xF) (ge_xX : n0 ≤ xX) (ge_xD : n0 ≤ xD) (ne_xN_xF : xN ≠ xF) (ne_xN_xX : xN ≠ xX) (ne_xN_xD : xN ≠ xD) (ne_xN_xB : xN ≠ xB) (ne_xF_xX : xF ≠ xX) (ne_xF_xD : xF ≠ xD) (ne_xF_xB : xF ≠ xB) (ne_xX_xD : xX ≠ xD) (ne_xX_xB : xX ≠ xB) (ne_xD_xB : xD ≠ xB) (hp : own_okS p1 sh nB gB gN ∧ own_inv gF gX se 0 ∧ own_ok se fc gF gD) :
    MetFree l (⟨"com/example/reachability/reachability/CandidateList", "find", "(II)I"⟩ : MethodName) (head1 (Jvm.Cond.code (⟨"com/example/reachability/reachability/CandidateList", "find", "(II)I"⟩ : MethodName) prog_2_method_12_code 5 (some .int) :: ws) rm7_room) (fun a U => a = #[(.ref r0), (.int p1), (.int p2)] ∧ Z.Warmed39 U.vm ∧ U.heap = h0) (fun _ _ _ _ _ => True) (fun _ U o U' => ∃ v L, o = .returned v ∧ Qrm7 Z r0 p1 p2 xN xE xF xX xD sh xB se fo fc gN gF gX gD nB gB h0 n0 v U'.heap L ∧ FrameEnd U o U' L rm7_room.cells rm7_room.slots) := by
  refine MetFree.of_bodySF (plainFor_of_name pn_7) hisR ?_
  intro p e s m args below meth c s₁ Bd hml0 hP hK
  obtain ⟨rfl, hZ, hh⟩ := hP
  have hx := Bd.exec
  have hby := Bd.bytes
  have hml : c.maxLocals = 5 := hml0
  have hown : s.vm.findClass "com/example/reachability/reachability/CandidateList" = some m.cls := findClass_of_methodNamed Bd.named
  have hnm := (name_of_methodNamed Bd.named Bd.method).1
  have hlk : meth.locks = false := BodyLoose.notSynchronized Bd
  have X0 : Stand p l e rm7_room s m #[(.ref r0), (.int p1), (.int p2)] below meth c s₁ [] 0 0 := Stand.of_body Bd
  have e0 : s₁.heap = h0 := by rw [← hh, Bd.state]; rfl
  have N0 := Fr.nil n0
  show own_Fin p.tables e below s (Qrm7 Z r0 p1 p2 xN xE xF xX xD sh xB se fo fc gN gF gX gD nB gB h0 n0) rm7_room.cells rm7_room.slots (s₁.setTop (entryFrame m #[(.ref r0), (.int p1), (.int p2)] 5))
  rw [ef_7]
  show own_Fin _ _ _ _ _ _ _ (s₁.setTop (mkF m 0 #[.val (.ref r0), .val (.int p1), .val (.int p2), .unset, .unset] []))
  have K0 := Keep.refl h0 [r0, xF, xX, xD]
  refine own_go (fun _ k => XS.aloadN X0.here hx rfl (hb hby d7_0) rfl rfl k) ?_
  show own_Fin _ _ _ _ _ _ _ (s₁.setTop (mkF m 1 #[.val (.ref r0), .val (.int p1), .val (.int p2), .unset, .unset] [(.ref r0)]))
  refine own_go (fun _ k => XS.aloadN X0.here hx rfl (hb hby d7_1) rfl rfl k) ?_
  show own_Fin _ _ _ _ _ _ _ (s₁.setTop (mkF m 2 #[.val (.ref r0), .val (.int p1), .val (.int p2), .unset, .unset] [(.ref r0), (.ref r0)]))
  refine own_go (fun _ k => XS.iloadN X0.here hx rfl (hb hby d7_2) rfl k) ?_
  show own_Fin _ _ _ _ _ _ _ (s₁.setTop (mkF m 3 #[.val (.ref r0), .val (.int p1), .val (.int p2), .unset, .unset] [(.int p1), (.ref r0), (.ref r0)]))
  obtain ⟨cq1, kq1, q1a, q1b, q1c⟩ := isOf hZ e0 E_r0_0
  obtain ⟨_, _, ⟨T1, L1, k1, n1⟩, -, X1, ⟨Lc1, hQ1, l1, y1, z1⟩, st1⟩ := X0.virtualBack hx (y := (⟨"com/example/reachability/reachability/CandidateList", "first", "(I)I"⟩ : MethodName)) (z := (⟨"com/example/reachability/reachability/CandidateList", "first", "(I)I"⟩ : MethodName)) hown (mvT hZ (hw _ (List.mem_of_getElem? (i := 57) rfl))) (mvT hZ (hw _ (List.mem_of_getElem? (i := 58) rfl))) (notFace_of_selects (args := #[]) (mvT hZ (hw _ (List.mem_of_getElem? (i := 60) rfl)))) (mvT hZ (hw _ (List.mem_of_getElem? (i := 60) rfl))) (mvT hZ (hw _ (List.mem_of_getElem? (i := 59) rfl))) (by decide) (backOf (W := 1) (rm8 l Z a0 hw [] r0 p1 sh xB nB gB xN gN h0 n0 Z0 F_bucketShift_r0_0 F_bucketStart_r0_0 A_xB_0 F_numbers_r0_0 A_xN_0 (own_okS1 hp.1)) hZ (hw _ (List.mem_of_getElem? (i := 61) rfl)) (hw _ (List.mem_of_getElem? (i := 2) rfl)) (by decide) (by decide)) q1a q1c (g := (mkF m 3 #[.val (.ref r0), .val (.int p1), .val (.int p2), .unset, .unset] [(.int p1), (.ref r0), (.ref r0)])) rfl (by rw [hml]; rfl) (Steps.refl _) (argsL := [(.int p1)]) (rest := [(.ref r0)]) (lenOf own_pd457 rfl) rfl (by show 2 * 0 + _ ≤ _; exact Nat.le_of_eq rfl) (hb hby d7_3) (fun _ _ => ⟨rfl, e0, (by decide : 0 + 0 ≤ _), (by decide : 0 + 0 ≤ _)⟩)
  dsimp only [Pt.U, Pt.locs, Pt.cells, Pt.slots] at X1 l1 y1 z1 st1 hQ1
  replace y1 : 0 = k1 := y1.symm
  replace z1 : 0 = n1 := z1.symm
  subst y1 z1
  obtain ⟨rfl, N1q, e1⟩ := hQ1
  have N1 : Fr n0 L1 := by rw [l1]; exact Fr.app N0 N1q
  refine own_go (fun tg k => st1.trans k) ?_
  show own_Fin _ _ _ _ _ _ _ (T1.setTop (mkF m 6 #[.val (.ref r0), .val (.int p1), .val (.int p2), .unset, .unset] [(.int (own_f8 p1 sh nB gB gN)), (.ref r0)]))
  obtain ⟨cq2, q2, q2'⟩ := E_r0_0.cell
  obtain ⟨_, _, ⟨T2, L2, k2, n2⟩, -, X2, ⟨Lc2, hQ2, l2, y2, z2⟩, st2⟩ := X1.privateBack hx (y := (⟨"com/example/reachability/reachability/CandidateList", "open", "(I)I"⟩ : MethodName)) hown (mvT hZ (hw _ (List.mem_of_getElem? (i := 62) rfl))) (mvT hZ (hw _ (List.mem_of_getElem? (i := 63) rfl))) (own_selpriv (z := (⟨"com/example/reachability/reachability/CandidateList", "reset", "(Z)V"⟩ : MethodName)) rfl (mvT (args := #[]) hZ (hw _ (List.mem_of_getElem? (i := 41) rfl))) (Cond.privateMethod_at (mvP hZ (hw _ (List.mem_of_getElem? (i := 64) rfl)) (args := #[]))) (mvT hZ (hw _ (List.mem_of_getElem? (i := 63) rfl))) (by decide)) (Cond.privateMethod_at (mvP hZ (hw _ (List.mem_of_getElem? (i := 64) rfl)) (args := #[]))) (mvT hZ (hw _ (List.mem_of_getElem? (i := 65) rfl))) (by decide) (backOf (W := 0) (rm9 l Z a0 hw [] r0 (own_f8 p1 sh nB gB gN) xN gN xF gF xX gX se h0 n0 Z0 F_numbers_r0_0 A_xN_0 F_foundIn_r0_0 A_xF_0 F_next_r0_0 A_xX_0 F_search_r0_0 E_r0_0 ge_xX ne_xN_xX ne_xF_xX (own_fO0 (own_S03 hp.1) hp.2.1)) hZ (hw _ (List.mem_of_getElem? (i := 65) rfl)) (hw _ (List.mem_of_getElem? (i := 2) rfl)) (by decide) (by decide)) (g := (mkF m 6 #[.val (.ref r0), .val (.int p1), .val (.int p2), .unset, .unset] [(.int (own_f8 p1 sh nB gB gN)), (.ref r0)])) rfl (by rw [hml]; rfl) (Steps.refl _) (a := r0) (by rw [e1]; exact q2) q2' (argsL := [(.int (own_f8 p1 sh nB gB gN))]) (rest := []) (lenOf own_pd457 rfl) rfl (by show 2 * 0 + _ ≤ _; exact Nat.le_of_eq rfl) (hb hby d7_6) (fun _ _ => ⟨rfl, e1, (by decide : 0 + 0 ≤ _), (by decide : 0 + 0 ≤ _)⟩)
  dsimp only [Pt.U, Pt.locs, Pt.cells, Pt.slots] at X2 l2 y2 z2 st2 hQ2
  replace y2 : 0 = k2 := y2.symm
  replace z2 : 0 = n2 := z2.symm
  subst y2 z2
  obtain ⟨gY2, rfl, N2q, Kq2, A_xX_2, Pq2_1⟩ := hQ2
  have N2 : Fr n0 L2 := by rw [l2]; exact Fr.app N1 N2q
  have F_numbers_r0_2 := F_numbers_r0_0.keep Kq2 (ninS (own_ne_arf E_r0_0 (hw _ (List.mem_of_getElem? (i := 1) rfl)) A_xX_0) nin0)
  have F_elements_r0_2 := F_elements_r0_0.keep Kq2 (ninS (own_ne_arf E_r0_0 (hw _ (List.mem_of_getElem? (i := 1) rfl)) A_xX_0) nin0)
  have F_foundIn_r0_2 := F_foundIn_r0_0.keep Kq2 (ninS (own_ne_arf E_r0_0 (hw _ (List.mem_of_getElem? (i := 1) rfl)) A_xX_0) nin0)
  have F_next_r0_2 := F_next_r0_0.keep Kq2 (ninS (own_ne_arf E_r0_0 (hw _ (List.mem_of_getElem? (i := 1) rfl)) A_xX_0) nin0)
  have F_found_r0_2 := F_found_r0_0.keep Kq2 (ninS (own_ne_arf E_r0_0 (hw _ (List.mem_of_getElem? (i := 1) rfl)) A_xX_0) nin0)
  have F_bucketShift_r0_2 := F_bucketShift_r0_0.keep Kq2 (ninS (own_ne_arf E_r0_0 (hw _ (List.mem_of_getElem? (i := 1) rfl)) A_xX_0) nin0)
  have F_bucketStart_r0_2 := F_bucketStart_r0_0.keep Kq2 (ninS (own_ne_arf E_r0_0 (hw _ (List.mem_of_getElem? (i := 1) rfl)) A_xX_0) nin0)
  have E_r0_2 := E_r0_0.keep Kq2
  have F_search_r0_2 := F_search_r0_0.keep Kq2 (ninS (own_ne_arf E_r0_0 (hw _ (List.mem_of_getElem? (i := 1) rfl)) A_xX_0) nin0)
  have F_foundCount_r0_2 := F_foundCount_r0_0.keep Kq2 (ninS (own_ne_arf E_r0_0 (hw _ (List.mem_of_getElem? (i := 1) rfl)) A_xX_0) nin0)
  have F_firstOnly_r0_2 := F_firstOnly_r0_0.keep Kq2 (ninS (own_ne_arf E_r0_0 (hw _ (List.mem_of_getElem? (i := 1) rfl)) A_xX_0) nin0)
  have A_xN_2 := A_xN_0.keep Kq2 (ninS ne_xN_xX nin0)
  have A_xF_2 := A_xF_0.keep Kq2 (ninS ne_xF_xX nin0)
  have A_xD_2 := A_xD_0.keep Kq2 (ninS (Ne.symm ne_xX_xD) nin0)
  have A_xB_2 := A_xB_0.keep Kq2 (ninS (Ne.symm ne_xX_xB) nin0)
  have K2 := Keep.trans K0 Kq2 (allS (Or.inl (List.mem_of_getElem? (i := 2) rfl)) all0)
  have Z2 : n0 ≤ T2.heap.size := Nat.le_trans Z0 Kq2.1
  refine own_go (fun tg k => st2.trans k) ?_
  show own_Fin _ _ _ _ _ _ _ (T2.setTop (mkF m 9 #[.val (.ref r0), .val (.int p1), .val (.int p2), .unset, .unset] [(.int (own_nf gF se (own_f8 p1 sh nB gB gN)))]))
  refine own_go (fun _ k => XS.istoreN X2.here hx rfl (hb hby d7_9) rfl (l' := #[.val (.ref r0), .val (.int p1), .val (.int p2), .val (.int (own_nf gF se (own_f8 p1 sh nB gB gN))), .unset]) rfl k) ?_
  show own_Fin _ _ _ _ _ _ _ (T2.setTop (mkF m 10 #[.val (.ref r0), .val (.int p1), .val (.int p2), .val (.int (own_nf gF se (own_f8 p1 sh nB gB gN))), .unset] []))
  have loopA : ∀ (kA : Nat) (en : Int32) (F : Nat → Int32) (X : Nat → Int32) (D : Nat → Int32) (cc : Int32) (j4A : Slot) (TAL : State) (LAL : List Loc) (hAL : Heap), kA = (3 - en.toInt).toNat → own_en F se en → own_inv F X se 0 → own_ok se cc F D → own_Rk gN p2 fo se en cc F D (own_find p1 p2 sh nB gB gN fo se fc gF gD) → Stand p l e rm7_room s m #[(.ref r0), (.int p1), (.int p2)] below meth c TAL LAL 0 0 → Fr n0 LAL → TAL.heap = hAL → One j4A → n0 ≤ hAL.size → Keep h0 hAL [r0, xF, xX, xD] → Fld Z hAL r0 "com/example/reachability/reachability/CandidateList" "numbers" "[I" (.ref xN) → Fld Z hAL r0 "com/example/reachability/reachability/CandidateList" "elements" "[I" (.ref xE) → Fld Z hAL r0 "com/example/reachability/reachability/CandidateList" "foundIn" "[I" (.ref xF) → Fld Z hAL r0 "com/example/reachability/reachability/CandidateList" "next" "[I" (.ref xX) → Fld Z hAL r0 "com/example/reachability/reachability/CandidateList" "found" "[I" (.ref xD) → Fld Z hAL r0 "com/example/reachability/reachability/CandidateList" "bucketShift" "I" (.int sh) → Fld Z hAL r0 "com/example/reachability/reachability/CandidateList" "bucketStart" "[I" (.ref xB) → Exa Z hAL r0 "com/example/reachability/reachability/CandidateList" → Fld Z hAL r0 "com/example/reachability/reachability/CandidateList" "search" "I" (.int se) → Fld Z hAL r0 "com/example/reachability/reachability/CandidateList" "foundCount" "I" (.int cc) → Fld Z hAL r0 "com/example/reachability/reachability/CandidateList" "firstOnly" "Z" (.int fo) → own_Arf Z hAL xN .int (3 : Int32) (fun i => .int (gN i)) → own_Arf Z hAL xF .int (3 : Int32) (fun i => .int (F i)) → own_Arf Z hAL xX .int (3 : Int32) (fun i => .int (X i)) → own_Arf Z hAL xD .int (3 : Int32) (fun i => .int (D i)) → own_Arf Z hAL xB .int nB (fun i => .int (gB i)) → own_Fin p.tables e below s (Qrm7 Z r0 p1 p2 xN xE xF xX xD sh xB se fo fc gN gF gX gD nB gB h0 n0) rm7_room.cells rm7_room.slots (TAL.setTop (mkF m 10 #[.val (.ref r0), .val (.int p1), .val (.int p2), .val (.int en), j4A] [])) := by
    intro kA
    induction kA using Nat.strongRecOn with
    | _ kA ihA =>
      intro en F X D cc j4A TAL LAL hAL hkA hI hX hK hR XAL NAL eAL hj4A ZAL KAL F_numbers_r0_AL F_elements_r0_AL F_foundIn_r0_AL F_next_r0_AL F_found_r0_AL F_bucketShift_r0_AL F_bucketStart_r0_AL E_r0_AL F_search_r0_AL F_foundCount_r0_AL F_firstOnly_r0_AL A_xN_AL A_xF_AL A_xX_AL A_xD_AL A_xB_AL
      show own_Fin _ _ _ _ _ _ _ (TAL.setTop (mkF m 10 #[.val (.ref r0), .val (.int p1), .val (.int p2), .val (.int en), j4A] []))
      refine own_go (fun _ k => XS.iloadN XAL.here hx rfl (hb hby d7_10) rfl k) ?_
      show own_Fin _ _ _ _ _ _ _ (TAL.setTop (mkF m 11 #[.val (.ref r0), .val (.int p1), .val (.int p2), .val (.int en), j4A] [(.int en)]))
      refine own_go (fun _ k => XS.aloadN XAL.here hx rfl (hb hby d7_11) rfl rfl k) ?_
      show own_Fin _ _ _ _ _ _ _ (TAL.setTop (mkF m 12 #[.val (.ref r0), .val (.int p1), .val (.int p2), .val (.int en), j4A] [(.ref r0), (.int en)]))
      obtain ⟨T3, X3, e3, st3⟩ := getF XAL hx hZ hown (host := "") (Or.inl (hw _ (List.mem_of_getElem? (i := 14) rfl))) Via.refl eAL F_numbers_r0_AL (g := (mkF m 12 #[.val (.ref r0), .val (.int p1), .val (.int p2), .val (.int en), j4A] [(.ref r0), (.int en)])) rfl rfl (hb hby d7_12)
      refine own_go (fun tg k => st3 tg k) ?_
      show own_Fin _ _ _ _ _ _ _ (T3.setTop (mkF m 15 #[.val (.ref r0), .val (.int p1), .val (.int p2), .val (.int en), j4A] [(.ref xN), (.int en)]))
      refine own_go (fun tg k => own_alen X3 hx hZ e3 A_xN_AL (g := (mkF m 15 #[.val (.ref r0), .val (.int p1), .val (.int p2), .val (.int en), j4A] [(.ref xN), (.int en)])) rfl rfl (hb hby d7_15) tg k) ?_
      show own_Fin _ _ _ _ _ _ _ (T3.setTop (mkF m 16 #[.val (.ref r0), .val (.int p1), .val (.int p2), .val (.int en), j4A] [(.int (3 : Int32)), (.int en)]))
      by_cases hc4 : en < (3 : Int32)
      · refine own_go (fun _ k => XS.icmpNo X3.here hx rfl (hb hby d7_16) rfl (tlt hc4).2.1 k) ?_
        show own_Fin _ _ _ _ _ _ _ (T3.setTop (mkF m 19 #[.val (.ref r0), .val (.int p1), .val (.int p2), .val (.int en), j4A] []))
        refine own_go (fun _ k => XS.aloadN X3.here hx rfl (hb hby d7_19) rfl rfl k) ?_
        show own_Fin _ _ _ _ _ _ _ (T3.setTop (mkF m 20 #[.val (.ref r0), .val (.int p1), .val (.int p2), .val (.int en), j4A] [(.ref r0)]))
        obtain ⟨T5, X5, e5, st5⟩ := getF X3 hx hZ hown (host := "") (Or.inl (hw _ (List.mem_of_getElem? (i := 14) rfl))) Via.refl e3 F_numbers_r0_AL (g := (mkF m 20 #[.val (.ref r0), .val (.int p1), .val (.int p2), .val (.int en), j4A] [(.ref r0)])) rfl rfl (hb hby d7_20)
        refine own_go (fun tg k => st5 tg k) ?_
        show own_Fin _ _ _ _ _ _ _ (T5.setTop (mkF m 23 #[.val (.ref r0), .val (.int p1), .val (.int p2), .val (.int en), j4A] [(.ref xN)]))
        refine own_go (fun _ k => XS.iloadN X5.here hx rfl (hb hby d7_23) rfl k) ?_
        show own_Fin _ _ _ _ _ _ _ (T5.setTop (mkF m 24 #[.val (.ref r0), .val (.int p1), .val (.int p2), .val (.int en), j4A] [(.int en), (.ref xN)]))
        refine own_go (fun tg k => own_iaload X5 hx hZ e5 A_xN_AL (j := en) (own_bd3 hI.1 hc4) (x := (gN en.toNatClampNeg)) rfl (g := (mkF m 24 #[.val (.ref r0), .val (.int p1), .val (.int p2), .val (.int en), j4A] [(.int en), (.ref xN)])) rfl rfl (hb hby d7_24) tg k) ?_
        show own_Fin _ _ _ _ _ _ _ (T5.setTop (mkF m 25 #[.val (.ref r0), .val (.int p1), .val (.int p2), .val (.int en), j4A] [(.int (gN en.toNatClampNeg))]))
        refine own_go (fun _ k => XS.iloadN X5.here hx rfl (hb hby d7_25) rfl k) ?_
        show own_Fin _ _ _ _ _ _ _ (T5.setTop (mkF m 26 #[.val (.ref r0), .val (.int p1), .val (.int p2), .val (.int en), j4A] [(.int p2), (.int (gN en.toNatClampNeg))]))
        by_cases hc6 : p2 < (gN en.toNatClampNeg)
        · refine own_go (fun _ k => XS.icmpYes X5.here hx rfl (pc0 := 26) (pc' := 86) rfl (hb hby d7_26) rfl (tlt hc6).2.2.1 (by decide) (by decide) k) ?_
          show own_Fin _ _ _ _ _ _ _ (T5.setTop (mkF m 86 #[.val (.ref r0), .val (.int p1), .val (.int p2), .val (.int en), j4A] []))
          refine own_go (fun _ k => XS.aloadN X5.here hx rfl (hb hby d7_86) rfl rfl k) ?_
          show own_Fin _ _ _ _ _ _ _ (T5.setTop (mkF m 87 #[.val (.ref r0), .val (.int p1), .val (.int p2), .val (.int en), j4A] [(.ref r0)]))
          refine own_go (fun _ k => XS.iloadN X5.here hx rfl (hb hby d7_87) rfl k) ?_
          show own_Fin _ _ _ _ _ _ _ (T5.setTop (mkF m 88 #[.val (.ref r0), .val (.int p1), .val (.int p2), .val (.int en), j4A] [(.int en), (.ref r0)]))
          obtain ⟨cq7, q7, q7'⟩ := E_r0_AL.cell
          obtain ⟨_, _, ⟨T7, L7, k7, n7⟩, -, X7, ⟨Lc7, hQ7, l7, y7, z7⟩, st7⟩ := X5.privateBack hx (y := (⟨"com/example/reachability/reachability/CandidateList", "numberOf", "(I)I"⟩ : MethodName)) hown (mvT hZ (hw _ (List.mem_of_getElem? (i := 66) rfl))) (mvT hZ (hw _ (List.mem_of_getElem? (i := 67) rfl))) (own_selpriv (z := (⟨"com/example/reachability/reachability/CandidateList", "reset", "(Z)V"⟩ : MethodName)) rfl (mvT (args := #[]) hZ (hw _ (List.mem_of_getElem? (i := 41) rfl))) (Cond.privateMethod_at (mvP hZ (hw _ (List.mem_of_getElem? (i := 68) rfl)) (args := #[]))) (mvT hZ (hw _ (List.mem_of_getElem? (i := 67) rfl))) (by decide)) (Cond.privateMethod_at (mvP hZ (hw _ (List.mem_of_getElem? (i := 68) rfl)) (args := #[]))) (mvT hZ (hw _ (List.mem_of_getElem? (i := 69) rfl))) (by decide) (backOf (W := 0) (rm10 l Z a0 hw [] r0 en xN gN hAL n0 ZAL F_numbers_r0_AL A_xN_AL (own_nneg hI)) hZ (hw _ (List.mem_of_getElem? (i := 69) rfl)) (hw _ (List.mem_of_getElem? (i := 2) rfl)) (by decide) (by decide)) (g := (mkF m 88 #[.val (.ref r0), .val (.int p1), .val (.int p2), .val (.int en), j4A] [(.int en), (.ref r0)])) rfl (by rw [hml]; rfl) (Steps.refl _) (a := r0) (by rw [e5]; exact q7) q7' (argsL := [(.int en)]) (rest := []) (lenOf own_pd457 rfl) rfl (by show 2 * 0 + _ ≤ _; exact Nat.le_of_eq rfl) (hb hby d7_88) (fun _ _ => ⟨rfl, e5, (by decide : 0 + 0 ≤ _), (by decide : 0 + 0 ≤ _)⟩)
          dsimp only [Pt.U, Pt.locs, Pt.cells, Pt.slots] at X7 l7 y7 z7 st7 hQ7
          replace y7 : 0 = k7 := y7.symm
          replace z7 : 0 = n7 := z7.symm
          subst y7 z7
          obtain ⟨rfl, N7q, e7⟩ := hQ7
          have N7 : Fr n0 L7 := by rw [l7]; exact Fr.app NAL N7q
          refine own_go (fun tg k => st7.trans k) ?_
          show own_Fin _ _ _ _ _ _ _ (T7.setTop (mkF m 91 #[.val (.ref r0), .val (.int p1), .val (.int p2), .val (.int en), j4A] [(.int (own_f10 en gN))]))
          refine own_ret X7 hx hlk Bd.returns rfl (Or.inl ⟨rfl, by simp, _, rfl⟩) (hb hby d7_91) (Nat.le_of_ble_eq_true rfl) (Nat.le_of_ble_eq_true rfl) ?_
          rw [e7]
          refine ⟨(own_f10 en gN), X, ?_, N7, KAL, ?_, ?_, ?_, ?_, ?_, ?_, ?_, E_r0_AL, ?_, ?_, ?_, ?_, ?_, ?_, ?_⟩
          · rfl
          · first | (exact F_numbers_r0_AL) | (simp only [if_pos hc4, if_pos hc6]; exact F_numbers_r0_AL)
          · first | (exact F_elements_r0_AL) | (simp only [if_pos hc4, if_pos hc6]; exact F_elements_r0_AL)
          · first | (exact F_foundIn_r0_AL) | (simp only [if_pos hc4, if_pos hc6]; exact F_foundIn_r0_AL)
          · first | (exact F_next_r0_AL) | (simp only [if_pos hc4, if_pos hc6]; exact F_next_r0_AL)
          · first | (exact F_found_r0_AL) | (simp only [if_pos hc4, if_pos hc6]; exact F_found_r0_AL)
          · first | (exact F_bucketShift_r0_AL) | (simp only [if_pos hc4, if_pos hc6]; exact F_bucketShift_r0_AL)
          · first | (exact F_bucketStart_r0_AL) | (simp only [if_pos hc4, if_pos hc6]; exact F_bucketStart_r0_AL)
          · first | (exact F_search_r0_AL) | (simp only [if_pos hc4, if_pos hc6]; exact F_search_r0_AL)
          · (rw [show (own_find p1 p2 sh nB gB gN fo se fc gF gD) = _ from (own_Rend hR (Or.inr (Or.inl hc6)))]; exact F_foundCount_r0_AL)
          · first | (exact F_firstOnly_r0_AL) | (simp only [if_pos hc4, if_pos hc6]; exact F_firstOnly_r0_AL)
          · (rw [show (own_find p1 p2 sh nB gB gN fo se fc gF gD) = _ from (own_Rend hR (Or.inr (Or.inl hc6)))]; exact A_xF_AL)
          · first | (exact A_xX_AL) | (simp only [if_pos hc4, if_pos hc6]; exact A_xX_AL)
          · (rw [show (own_find p1 p2 sh nB gB gN fo se fc gF gD) = _ from (own_Rend hR (Or.inr (Or.inl hc6)))]; exact A_xD_AL)
          · (rw [show (own_find p1 p2 sh nB gB gN fo se fc gF gD) = _ from (own_Rend hR (Or.inr (Or.inl hc6)))]; exact ⟨hX, hK⟩)
        · refine own_go (fun _ k => XS.icmpNo X5.here hx rfl (hb hby d7_26) rfl (flt hc6).2.2.1 k) ?_
          show own_Fin _ _ _ _ _ _ _ (T5.setTop (mkF m 29 #[.val (.ref r0), .val (.int p1), .val (.int p2), .val (.int en), j4A] []))
          refine own_go (fun _ k => XS.aloadN X5.here hx rfl (hb hby d7_29) rfl rfl k) ?_
          show own_Fin _ _ _ _ _ _ _ (T5.setTop (mkF m 30 #[.val (.ref r0), .val (.int p1), .val (.int p2), .val (.int en), j4A] [(.ref r0)]))
          obtain ⟨cq8, kq8, q8a, q8b, q8c⟩ := isOf hZ e5 E_r0_AL
          obtain ⟨_, _, ⟨T8, L8, k8, n8⟩, -, X8, ⟨Lc8, hQ8, l8, y8, z8⟩, st8⟩ := X5.virtualBack hx (y := (⟨"com/example/reachability/reachability/CandidateList", "satisfied", "()Z"⟩ : MethodName)) (z := (⟨"com/example/reachability/reachability/CandidateList", "satisfied", "()Z"⟩ : MethodName)) hown (mvT hZ (hw _ (List.mem_of_getElem? (i := 85) rfl))) (mvT hZ (hw _ (List.mem_of_getElem? (i := 86) rfl))) (notFace_of_selects (args := #[]) (mvT hZ (hw _ (List.mem_of_getElem? (i := 88) rfl)))) (mvT hZ (hw _ (List.mem_of_getElem? (i := 88) rfl))) (mvT hZ (hw _ (List.mem_of_getElem? (i := 87) rfl))) (by decide) (backOf (W := 0) (rm15 l Z a0 hw [] r0 fo cc hAL n0 ZAL F_firstOnly_r0_AL F_foundCount_r0_AL) hZ (hw _ (List.mem_of_getElem? (i := 89) rfl)) (hw _ (List.mem_of_getElem? (i := 2) rfl)) (by decide) (by decide)) q8a q8c (g := (mkF m 30 #[.val (.ref r0), .val (.int p1), .val (.int p2), .val (.int en), j4A] [(.ref r0)])) rfl (by rw [hml]; rfl) (Steps.refl _) (argsL := []) (rest := []) (lenOf own_pd458 rfl) rfl (by show 2 * 0 + _ ≤ _; exact Nat.le_of_eq rfl) (hb hby d7_30) (fun _ _ => ⟨rfl, e5, (by decide : 0 + 0 ≤ _), (by decide : 0 + 0 ≤ _)⟩)
          dsimp only [Pt.U, Pt.locs, Pt.cells, Pt.slots] at X8 l8 y8 z8 st8 hQ8
          replace y8 : 0 = k8 := y8.symm
          replace z8 : 0 = n8 := z8.symm
          subst y8 z8
          obtain ⟨rfl, N8q, e8⟩ := hQ8
          have N8 : Fr n0 L8 := by rw [l8]; exact Fr.app NAL N8q
          refine own_go (fun tg k => st8.trans k) ?_
          show own_Fin _ _ _ _ _ _ _ (T8.setTop (mkF m 33 #[.val (.ref r0), .val (.int p1), .val (.int p2), .val (.int en), j4A] [(.int (own_f15 fo cc))]))
          by_cases hc9 : (own_f15 fo cc) = (0 : Int32)
          · refine own_go (fun _ k => XS.ifNo X8.here hx rfl (hb hby d7_33) rfl ((if0 _ _).trans (teq hc9).2) k) ?_
            show own_Fin _ _ _ _ _ _ _ (T8.setTop (mkF m 36 #[.val (.ref r0), .val (.int p1), .val (.int p2), .val (.int en), j4A] []))
            refine own_go (fun _ k => XS.aloadN X8.here hx rfl (hb hby d7_36) rfl rfl k) ?_
            show own_Fin _ _ _ _ _ _ _ (T8.setTop (mkF m 37 #[.val (.ref r0), .val (.int p1), .val (.int p2), .val (.int en), j4A] [(.ref r0)]))
            obtain ⟨T10, X10, e10, st10⟩ := getF X8 hx hZ hown (host := "") (Or.inl (hw _ (List.mem_of_getElem? (i := 18) rfl))) Via.refl e8 F_foundIn_r0_AL (g := (mkF m 37 #[.val (.ref r0), .val (.int p1), .val (.int p2), .val (.int en), j4A] [(.ref r0)])) rfl rfl (hb hby d7_37)
            refine own_go (fun tg k => st10 tg k) ?_
            show own_Fin _ _ _ _ _ _ _ (T10.setTop (mkF m 40 #[.val (.ref r0), .val (.int p1), .val (.int p2), .val (.int en), j4A] [(.ref xF)]))
            refine own_go (fun _ k => XS.iloadN X10.here hx rfl (hb hby d7_40) rfl k) ?_
            show own_Fin _ _ _ _ _ _ _ (T10.setTop (mkF m 41 #[.val (.ref r0), .val (.int p1), .val (.int p2), .val (.int en), j4A] [(.int en), (.ref xF)]))
            refine own_go (fun _ k => XS.aloadN X10.here hx rfl (hb hby d7_41) rfl rfl k) ?_
            show own_Fin _ _ _ _ _ _ _ (T10.setTop (mkF m 42 #[.val (.ref r0), .val (.int p1), .val (.int p2), .val (.int en), j4A] [(.ref r0), (.int en), (.ref xF)]))
            obtain ⟨T11, X11, e11, st11⟩ := getF X10 hx hZ hown (host := "") (Or.inl (hw _ (List.mem_of_getElem? (i := 10) rfl))) Via.refl e10 F_search_r0_AL (g := (mkF m 42 #[.val (.ref r0), .val (.int p1), .val (.int p2), .val (.int en), j4A] [(.ref r0), (.int en), (.ref xF)])) rfl rfl (hb hby d7_42)
            refine own_go (fun tg k => st11 tg k) ?_
            show own_Fin _ _ _ _ _ _ _ (T11.setTop (mkF m 45 #[.val (.ref r0), .val (.int p1), .val (.int p2), .val (.int en), j4A] [(.int se), (.int en), (.ref xF)]))
            obtain ⟨T12, h12, X12, e12, W12, A_xF_12, st12⟩ := own_stI X11 hx hZ e11 A_xF_AL (j := en) (own_bd3 hI.1 hc4) (g := (mkF m 45 #[.val (.ref r0), .val (.int p1), .val (.int p2), .val (.int en), j4A] [(.int se), (.int en), (.ref xF)])) rfl rfl (hb hby d7_45)
            have F_numbers_r0_12 := F_numbers_r0_AL.other W12 (Or.inl (own_ne_arf E_r0_AL (hw _ (List.mem_of_getElem? (i := 1) rfl)) A_xF_AL))
            have F_elements_r0_12 := F_elements_r0_AL.other W12 (Or.inl (own_ne_arf E_r0_AL (hw _ (List.mem_of_getElem? (i := 1) rfl)) A_xF_AL))
            have F_foundIn_r0_12 := F_foundIn_r0_AL.other W12 (Or.inl (own_ne_arf E_r0_AL (hw _ (List.mem_of_getElem? (i := 1) rfl)) A_xF_AL))
            have F_next_r0_12 := F_next_r0_AL.other W12 (Or.inl (own_ne_arf E_r0_AL (hw _ (List.mem_of_getElem? (i := 1) rfl)) A_xF_AL))
            have F_found_r0_12 := F_found_r0_AL.other W12 (Or.inl (own_ne_arf E_r0_AL (hw _ (List.mem_of_getElem? (i := 1) rfl)) A_xF_AL))
            have F_bucketShift_r0_12 := F_bucketShift_r0_AL.other W12 (Or.inl (own_ne_arf E_r0_AL (hw _ (List.mem_of_getElem? (i := 1) rfl)) A_xF_AL))
            have F_bucketStart_r0_12 := F_bucketStart_r0_AL.other W12 (Or.inl (own_ne_arf E_r0_AL (hw _ (List.mem_of_getElem? (i := 1) rfl)) A_xF_AL))
            have E_r0_12 := E_r0_AL.wr W12
            have F_search_r0_12 := F_search_r0_AL.other W12 (Or.inl (own_ne_arf E_r0_AL (hw _ (List.mem_of_getElem? (i := 1) rfl)) A_xF_AL))
            have F_foundCount_r0_12 := F_foundCount_r0_AL.other W12 (Or.inl (own_ne_arf E_r0_AL (hw _ (List.mem_of_getElem? (i := 1) rfl)) A_xF_AL))
            have F_firstOnly_r0_12 := F_firstOnly_r0_AL.other W12 (Or.inl (own_ne_arf E_r0_AL (hw _ (List.mem_of_getElem? (i := 1) rfl)) A_xF_AL))
            have A_xN_12 := A_xN_AL.other W12 ne_xN_xF
            have A_xX_12 := A_xX_AL.other W12 (Ne.symm ne_xF_xX)
            have A_xD_12 := A_xD_AL.other W12 (Ne.symm ne_xF_xD)
            have A_xB_12 := A_xB_AL.other W12 (Ne.symm ne_xF_xB)
            have K12 := KAL.wr W12 (Or.inl (List.mem_of_getElem? (i := 1) rfl))
            have N12 := Fr.snoc X12 N8 ge_xF
            have Z12 : n0 ≤ h12.size := Nat.le_trans ZAL (Keep.of_wr W12).1
            obtain ⟨f12, hf12⟩ : ∃ z, z = (own_set F en se) := ⟨_, rfl⟩
            rw [← hf12] at A_xF_12
            refine own_go (fun tg k => st12 tg k) ?_
            show own_Fin _ _ _ _ _ _ _ (T12.setTop (mkF m 46 #[.val (.ref r0), .val (.int p1), .val (.int p2), .val (.int en), j4A] []))
            refine own_go (fun _ k => XS.aloadN X12.here hx rfl (hb hby d7_46) rfl rfl k) ?_
            show own_Fin _ _ _ _ _ _ _ (T12.setTop (mkF m 47 #[.val (.ref r0), .val (.int p1), .val (.int p2), .val (.int en), j4A] [(.ref r0)]))
            obtain ⟨T13, X13, e13, st13⟩ := getF X12 hx hZ hown (host := "") (Or.inl (hw _ (List.mem_of_getElem? (i := 22) rfl))) Via.refl e12 F_found_r0_12 (g := (mkF m 47 #[.val (.ref r0), .val (.int p1), .val (.int p2), .val (.int en), j4A] [(.ref r0)])) rfl rfl (hb hby d7_47)
            refine own_go (fun tg k => st13 tg k) ?_
            show own_Fin _ _ _ _ _ _ _ (T13.setTop (mkF m 50 #[.val (.ref r0), .val (.int p1), .val (.int p2), .val (.int en), j4A] [(.ref xD)]))
            refine own_go (fun _ k => XS.aloadN X13.here hx rfl (hb hby d7_50) rfl rfl k) ?_
            show own_Fin _ _ _ _ _ _ _ (T13.setTop (mkF m 51 #[.val (.ref r0), .val (.int p1), .val (.int p2), .val (.int en), j4A] [(.ref r0), (.ref xD)]))
            refine own_go (fun _ k => XS.dup X13.here hx rfl (hb hby d7_51) rfl rfl k) ?_
            show own_Fin _ _ _ _ _ _ _ (T13.setTop (mkF m 52 #[.val (.ref r0), .val (.int p1), .val (.int p2), .val (.int en), j4A] [(.ref r0), (.ref r0), (.ref xD)]))
            obtain ⟨T14, X14, e14, st14⟩ := getF X13 hx hZ hown (host := "") (Or.inl (hw _ (List.mem_of_getElem? (i := 44) rfl))) Via.refl e13 F_foundCount_r0_12 (g := (mkF m 52 #[.val (.ref r0), .val (.int p1), .val (.int p2), .val (.int en), j4A] [(.ref r0), (.ref r0), (.ref xD)])) rfl rfl (hb hby d7_52)
            refine own_go (fun tg k => st14 tg k) ?_
            show own_Fin _ _ _ _ _ _ _ (T14.setTop (mkF m 55 #[.val (.ref r0), .val (.int p1), .val (.int p2), .val (.int en), j4A] [(.int cc), (.ref r0), (.ref xD)]))
            refine own_go (fun _ k => XS.dupX1 X14.here hx rfl (hb hby d7_55) rfl rfl rfl k) ?_
            show own_Fin _ _ _ _ _ _ _ (T14.setTop (mkF m 56 #[.val (.ref r0), .val (.int p1), .val (.int p2), .val (.int en), j4A] [(.int cc), (.ref r0), (.int cc), (.ref xD)]))
            refine own_go (fun _ k => XS.iconst X14.here hx rfl (hb hby d7_56) k) ?_
            show own_Fin _ _ _ _ _ _ _ (T14.setTop (mkF m 57 #[.val (.ref r0), .val (.int p1), .val (.int p2), .val (.int en), j4A] [(.int (1 : Int32)), (.int cc), (.ref r0), (.int cc), (.ref xD)]))
            refine own_go (fun _ k => XS.iadd X14.here hx rfl (hb hby d7_57) rfl k) ?_
            show own_Fin _ _ _ _ _ _ _ (T14.setTop (mkF m 58 #[.val (.ref r0), .val (.int p1), .val (.int p2), .val (.int en), j4A] [(.int (cc + (1 : Int32))), (.ref r0), (.int cc), (.ref xD)]))
            obtain ⟨T15, h15, X15, e15, W15, st15⟩ := putF X14 hx hZ hown (host := "") (Or.inl (hw _ (List.mem_of_getElem? (i := 44) rfl))) Via.refl e14 F_foundCount_r0_12 E_r0_12 (Or.inl (hw _ (List.mem_of_getElem? (i := 45) rfl))) (hw _ (List.mem_of_getElem? (i := 1) rfl)) (ty := .int) (by decide) rfl rfl (g := (mkF m 58 #[.val (.ref r0), .val (.int p1), .val (.int p2), .val (.int en), j4A] [(.int (cc + (1 : Int32))), (.ref r0), (.int cc), (.ref xD)])) rfl rfl (hb hby d7_58)
            have F_numbers_r0_15 := F_numbers_r0_12.other W15 (Or.inr (own_sn346 hw))
            have F_elements_r0_15 := F_elements_r0_12.other W15 (Or.inr (own_sn347 hw))
            have F_foundIn_r0_15 := F_foundIn_r0_12.other W15 (Or.inr (own_sn348 hw))
            have F_next_r0_15 := F_next_r0_12.other W15 (Or.inr (own_sn349 hw))
            have F_found_r0_15 := F_found_r0_12.other W15 (Or.inr (own_sn350 hw))
            have F_bucketShift_r0_15 := F_bucketShift_r0_12.other W15 (Or.inr (own_sn351 hw))
            have F_bucketStart_r0_15 := F_bucketStart_r0_12.other W15 (Or.inr (own_sn352 hw))
            have E_r0_15 := E_r0_12.wr W15
            have F_search_r0_15 := F_search_r0_12.other W15 (Or.inr (own_sn353 hw))
            have F_firstOnly_r0_15 := F_firstOnly_r0_12.other W15 (Or.inr (own_sn354 hw))
            have A_xN_15 := A_xN_12.other W15 (Ne.symm (own_ne_arf E_r0_12 (hw _ (List.mem_of_getElem? (i := 1) rfl)) A_xN_12))
            have A_xF_15 := A_xF_12.other W15 (Ne.symm (own_ne_arf E_r0_12 (hw _ (List.mem_of_getElem? (i := 1) rfl)) A_xF_12))
            have A_xX_15 := A_xX_12.other W15 (Ne.symm (own_ne_arf E_r0_12 (hw _ (List.mem_of_getElem? (i := 1) rfl)) A_xX_12))
            have A_xD_15 := A_xD_12.other W15 (Ne.symm (own_ne_arf E_r0_12 (hw _ (List.mem_of_getElem? (i := 1) rfl)) A_xD_12))
            have A_xB_15 := A_xB_12.other W15 (Ne.symm (own_ne_arf E_r0_12 (hw _ (List.mem_of_getElem? (i := 1) rfl)) A_xB_12))
            have K15 := K12.wr W15 (Or.inl (List.mem_of_getElem? (i := 0) rfl))
            have N15 := Fr.snoc X15 N12 ge_r0
            have Z15 : n0 ≤ h15.size := Nat.le_trans Z12 (Keep.of_wr W15).1
            have F_foundCount_r0_15 := F_foundCount_r0_12.same W15
            refine own_go (fun tg k => st15 tg k) ?_
            show own_Fin _ _ _ _ _ _ _ (T15.setTop (mkF m 61 #[.val (.ref r0), .val (.int p1), .val (.int p2), .val (.int en), j4A] [(.int cc), (.ref xD)]))
            refine own_go (fun _ k => XS.iloadN X15.here hx rfl (hb hby d7_61) rfl k) ?_
            show own_Fin _ _ _ _ _ _ _ (T15.setTop (mkF m 62 #[.val (.ref r0), .val (.int p1), .val (.int p2), .val (.int en), j4A] [(.int en), (.int cc), (.ref xD)]))
            obtain ⟨T16, h16, X16, e16, W16, A_xD_16, st16⟩ := own_stI X15 hx hZ e15 A_xD_15 (j := cc) (own_fcb hI hc4 hK) (g := (mkF m 62 #[.val (.ref r0), .val (.int p1), .val (.int p2), .val (.int en), j4A] [(.int en), (.int cc), (.ref xD)])) rfl rfl (hb hby d7_62)
            have F_numbers_r0_16 := F_numbers_r0_15.other W16 (Or.inl (own_ne_arf E_r0_15 (hw _ (List.mem_of_getElem? (i := 1) rfl)) A_xD_15))
            have F_elements_r0_16 := F_elements_r0_15.other W16 (Or.inl (own_ne_arf E_r0_15 (hw _ (List.mem_of_getElem? (i := 1) rfl)) A_xD_15))
            have F_foundIn_r0_16 := F_foundIn_r0_15.other W16 (Or.inl (own_ne_arf E_r0_15 (hw _ (List.mem_of_getElem? (i := 1) rfl)) A_xD_15))
            have F_next_r0_16 := F_next_r0_15.other W16 (Or.inl (own_ne_arf E_r0_15 (hw _ (List.mem_of_getElem? (i := 1) rfl)) A_xD_15))
            have F_found_r0_16 := F_found_r0_15.other W16 (Or.inl (own_ne_arf E_r0_15 (hw _ (List.mem_of_getElem? (i := 1) rfl)) A_xD_15))
            have F_bucketShift_r0_16 := F_bucketShift_r0_15.other W16 (Or.inl (own_ne_arf E_r0_15 (hw _ (List.mem_of_getElem? (i := 1) rfl)) A_xD_15))
            have F_bucketStart_r0_16 := F_bucketStart_r0_15.other W16 (Or.inl (own_ne_arf E_r0_15 (hw _ (List.mem_of_getElem? (i := 1) rfl)) A_xD_15))
            have E_r0_16 := E_r0_15.wr W16
            have F_search_r0_16 := F_search_r0_15.other W16 (Or.inl (own_ne_arf E_r0_15 (hw _ (List.mem_of_getElem? (i := 1) rfl)) A_xD_15))
            have F_foundCount_r0_16 := F_foundCount_r0_15.other W16 (Or.inl (own_ne_arf E_r0_15 (hw _ (List.mem_of_getElem? (i := 1) rfl)) A_xD_15))
            have F_firstOnly_r0_16 := F_firstOnly_r0_15.other W16 (Or.inl (own_ne_arf E_r0_15 (hw _ (List.mem_of_getElem? (i := 1) rfl)) A_xD_15))
            have A_xN_16 := A_xN_15.other W16 ne_xN_xD
            have A_xF_16 := A_xF_15.other W16 ne_xF_xD
            have A_xX_16 := A_xX_15.other W16 ne_xX_xD
            have A_xB_16 := A_xB_15.other W16 (Ne.symm ne_xD_xB)
            have K16 := K15.wr W16 (Or.inl (List.mem_of_getElem? (i := 3) rfl))
            have N16 := Fr.snoc X16 N15 ge_xD
            have Z16 : n0 ≤ h16.size := Nat.le_trans Z15 (Keep.of_wr W16).1
            obtain ⟨f16, hf16⟩ : ∃ z, z = (own_set D cc en) := ⟨_, rfl⟩
            rw [← hf16] at A_xD_16
            refine own_go (fun tg k => st16 tg k) ?_
            show own_Fin _ _ _ _ _ _ _ (T16.setTop (mkF m 63 #[.val (.ref r0), .val (.int p1), .val (.int p2), .val (.int en), j4A] []))
            refine own_go (fun _ k => XS.aloadN X16.here hx rfl (hb hby d7_63) rfl rfl k) ?_
            show own_Fin _ _ _ _ _ _ _ (T16.setTop (mkF m 64 #[.val (.ref r0), .val (.int p1), .val (.int p2), .val (.int en), j4A] [(.ref r0)]))
            refine own_go (fun _ k => XS.iloadN X16.here hx rfl (hb hby d7_64) rfl k) ?_
            show own_Fin _ _ _ _ _ _ _ (T16.setTop (mkF m 65 #[.val (.ref r0), .val (.int p1), .val (.int p2), .val (.int en), j4A] [(.int en), (.ref r0)]))
            refine own_go (fun _ k => XS.iconst X16.here hx rfl (hb hby d7_65) k) ?_
            show own_Fin _ _ _ _ _ _ _ (T16.setTop (mkF m 66 #[.val (.ref r0), .val (.int p1), .val (.int p2), .val (.int en), j4A] [(.int (1 : Int32)), (.int en), (.ref r0)]))
            refine own_go (fun _ k => XS.iadd X16.here hx rfl (hb hby d7_66) rfl k) ?_
            show own_Fin _ _ _ _ _ _ _ (T16.setTop (mkF m 67 #[.val (.ref r0), .val (.int p1), .val (.int p2), .val (.int en), j4A] [(.int (en + (1 : Int32))), (.ref r0)]))
            obtain ⟨cq17, q17, q17'⟩ := E_r0_16.cell
            obtain ⟨_, _, ⟨T17, L17, k17, n17⟩, -, X17, ⟨Lc17, hQ17, l17, y17, z17⟩, st17⟩ := X16.privateBack hx (y := (⟨"com/example/reachability/reachability/CandidateList", "open", "(I)I"⟩ : MethodName)) hown (mvT hZ (hw _ (List.mem_of_getElem? (i := 62) rfl))) (mvT hZ (hw _ (List.mem_of_getElem? (i := 63) rfl))) (own_selpriv (z := (⟨"com/example/reachability/reachability/CandidateList", "reset", "(Z)V"⟩ : MethodName)) rfl (mvT (args := #[]) hZ (hw _ (List.mem_of_getElem? (i := 41) rfl))) (Cond.privateMethod_at (mvP hZ (hw _ (List.mem_of_getElem? (i := 64) rfl)) (args := #[]))) (mvT hZ (hw _ (List.mem_of_getElem? (i := 63) rfl))) (by decide)) (Cond.privateMethod_at (mvP hZ (hw _ (List.mem_of_getElem? (i := 64) rfl)) (args := #[]))) (mvT hZ (hw _ (List.mem_of_getElem? (i := 65) rfl))) (by decide) (backOf (W := 0) (rm9 l Z a0 hw [] r0 (en + (1 : Int32)) xN gN xF f12 xX X se h16 n0 Z16 F_numbers_r0_16 A_xN_16 F_foundIn_r0_16 A_xF_16 F_next_r0_16 A_xX_16 F_search_r0_16 E_r0_16 ge_xX ne_xN_xX ne_xF_xX (own_fO hI hc4 hX hf12)) hZ (hw _ (List.mem_of_getElem? (i := 65) rfl)) (hw _ (List.mem_of_getElem? (i := 2) rfl)) (by decide) (by decide)) (g := (mkF m 67 #[.val (.ref r0), .val (.int p1), .val (.int p2), .val (.int en), j4A] [(.int (en + (1 : Int32))), (.ref r0)])) rfl (by rw [hml]; rfl) (Steps.refl _) (a := r0) (by rw [e16]; exact q17) q17' (argsL := [(.int (en + (1 : Int32)))]) (rest := []) (lenOf own_pd457 rfl) rfl (by show 2 * 0 + _ ≤ _; exact Nat.le_of_eq rfl) (hb hby d7_67) (fun _ _ => ⟨rfl, e16, (by decide : 0 + 0 ≤ _), (by decide : 0 + 0 ≤ _)⟩)
            dsimp only [Pt.U, Pt.locs, Pt.cells, Pt.slots] at X17 l17 y17 z17 st17 hQ17
            replace y17 : 0 = k17 := y17.symm
            replace z17 : 0 = n17 := z17.symm
            subst y17 z17
            obtain ⟨gY17, rfl, N17q, Kq17, A_xX_17, Pq17_1⟩ := hQ17
            have N17 : Fr n0 L17 := by rw [l17]; exact Fr.app N16 N17q
            have F_numbers_r0_17 := F_numbers_r0_16.keep Kq17 (ninS (own_ne_arf E_r0_16 (hw _ (List.mem_of_getElem? (i := 1) rfl)) A_xX_16) nin0)
            have F_elements_r0_17 := F_elements_r0_16.keep Kq17 (ninS (own_ne_arf E_r0_16 (hw _ (List.mem_of_getElem? (i := 1) rfl)) A_xX_16) nin0)
            have F_foundIn_r0_17 := F_foundIn_r0_16.keep Kq17 (ninS (own_ne_arf E_r0_16 (hw _ (List.mem_of_getElem? (i := 1) rfl)) A_xX_16) nin0)
            have F_next_r0_17 := F_next_r0_16.keep Kq17 (ninS (own_ne_arf E_r0_16 (hw _ (List.mem_of_getElem? (i := 1) rfl)) A_xX_16) nin0)
            have F_found_r0_17 := F_found_r0_16.keep Kq17 (ninS (own_ne_arf E_r0_16 (hw _ (List.mem_of_getElem? (i := 1) rfl)) A_xX_16) nin0)
            have F_bucketShift_r0_17 := F_bucketShift_r0_16.keep Kq17 (ninS (own_ne_arf E_r0_16 (hw _ (List.mem_of_getElem? (i := 1) rfl)) A_xX_16) nin0)
            have F_bucketStart_r0_17 := F_bucketStart_r0_16.keep Kq17 (ninS (own_ne_arf E_r0_16 (hw _ (List.mem_of_getElem? (i := 1) rfl)) A_xX_16) nin0)
            have E_r0_17 := E_r0_16.keep Kq17
            have F_search_r0_17 := F_search_r0_16.keep Kq17 (ninS (own_ne_arf E_r0_16 (hw _ (List.mem_of_getElem? (i := 1) rfl)) A_xX_16) nin0)
            have F_foundCount_r0_17 := F_foundCount_r0_16.keep Kq17 (ninS (own_ne_arf E_r0_16 (hw _ (List.mem_of_getElem? (i := 1) rfl)) A_xX_16) nin0)
            have F_firstOnly_r0_17 := F_firstOnly_r0_16.keep Kq17 (ninS (own_ne_arf E_r0_16 (hw _ (List.mem_of_getElem? (i := 1) rfl)) A_xX_16) nin0)
            have A_xN_17 := A_xN_16.keep Kq17 (ninS ne_xN_xX nin0)
            have A_xF_17 := A_xF_16.keep Kq17 (ninS ne_xF_xX nin0)
            have A_xD_17 := A_xD_16.keep Kq17 (ninS (Ne.symm ne_xX_xD) nin0)
            have A_xB_17 := A_xB_16.keep Kq17 (ninS (Ne.symm ne_xX_xB) nin0)
            have K17 := Keep.trans K16 Kq17 (allS (Or.inl (List.mem_of_getElem? (i := 2) rfl)) all0)
            have Z17 : n0 ≤ T17.heap.size := Nat.le_trans Z16 Kq17.1
            refine own_go (fun tg k => st17.trans k) ?_
            show own_Fin _ _ _ _ _ _ _ (T17.setTop (mkF m 70 #[.val (.ref r0), .val (.int p1), .val (.int p2), .val (.int en), j4A] [(.int (own_nf f12 se (en + (1 : Int32))))]))
            refine own_go (fun _ k => XS.istoreS X17.here hx rfl (hb hby d7_70) rfl rfl hj4A k) ?_
            show own_Fin _ _ _ _ _ _ _ (T17.setTop (mkF m 72 #[.val (.ref r0), .val (.int p1), .val (.int p2), .val (.int en), .val (.int (own_nf f12 se (en + (1 : Int32))))] []))
            refine own_go (fun _ k => XS.aloadN X17.here hx rfl (hb hby d7_72) rfl rfl k) ?_
            show own_Fin _ _ _ _ _ _ _ (T17.setTop (mkF m 73 #[.val (.ref r0), .val (.int p1), .val (.int p2), .val (.int en), .val (.int (own_nf f12 se (en + (1 : Int32))))] [(.ref r0)]))
            obtain ⟨T18, X18, e18, st18⟩ := getF X17 hx hZ hown (host := "") (Or.inl (hw _ (List.mem_of_getElem? (i := 20) rfl))) Via.refl rfl F_next_r0_17 (g := (mkF m 73 #[.val (.ref r0), .val (.int p1), .val (.int p2), .val (.int en), .val (.int (own_nf f12 se (en + (1 : Int32))))] [(.ref r0)])) rfl rfl (hb hby d7_73)
            refine own_go (fun tg k => st18 tg k) ?_
            show own_Fin _ _ _ _ _ _ _ (T18.setTop (mkF m 76 #[.val (.ref r0), .val (.int p1), .val (.int p2), .val (.int en), .val (.int (own_nf f12 se (en + (1 : Int32))))] [(.ref xX)]))
            refine own_go (fun _ k => XS.iloadN X18.here hx rfl (hb hby d7_76) rfl k) ?_
            show own_Fin _ _ _ _ _ _ _ (T18.setTop (mkF m 77 #[.val (.ref r0), .val (.int p1), .val (.int p2), .val (.int en), .val (.int (own_nf f12 se (en + (1 : Int32))))] [(.int en), (.ref xX)]))
            refine own_go (fun _ k => XS.iload X18.here hx rfl (hb hby d7_77) rfl k) ?_
            show own_Fin _ _ _ _ _ _ _ (T18.setTop (mkF m 79 #[.val (.ref r0), .val (.int p1), .val (.int p2), .val (.int en), .val (.int (own_nf f12 se (en + (1 : Int32))))] [(.int (own_nf f12 se (en + (1 : Int32)))), (.int en), (.ref xX)]))
            obtain ⟨T19, h19, X19, e19, W19, A_xX_19, st19⟩ := own_stI X18 hx hZ e18 A_xX_17 (j := en) (own_bd3 hI.1 hc4) (g := (mkF m 79 #[.val (.ref r0), .val (.int p1), .val (.int p2), .val (.int en), .val (.int (own_nf f12 se (en + (1 : Int32))))] [(.int (own_nf f12 se (en + (1 : Int32)))), (.int en), (.ref xX)])) rfl rfl (hb hby d7_79)
            have F_numbers_r0_19 := F_numbers_r0_17.other W19 (Or.inl (own_ne_arf E_r0_17 (hw _ (List.mem_of_getElem? (i := 1) rfl)) A_xX_17))
            have F_elements_r0_19 := F_elements_r0_17.other W19 (Or.inl (own_ne_arf E_r0_17 (hw _ (List.mem_of_getElem? (i := 1) rfl)) A_xX_17))
            have F_foundIn_r0_19 := F_foundIn_r0_17.other W19 (Or.inl (own_ne_arf E_r0_17 (hw _ (List.mem_of_getElem? (i := 1) rfl)) A_xX_17))
            have F_next_r0_19 := F_next_r0_17.other W19 (Or.inl (own_ne_arf E_r0_17 (hw _ (List.mem_of_getElem? (i := 1) rfl)) A_xX_17))
            have F_found_r0_19 := F_found_r0_17.other W19 (Or.inl (own_ne_arf E_r0_17 (hw _ (List.mem_of_getElem? (i := 1) rfl)) A_xX_17))
            have F_bucketShift_r0_19 := F_bucketShift_r0_17.other W19 (Or.inl (own_ne_arf E_r0_17 (hw _ (List.mem_of_getElem? (i := 1) rfl)) A_xX_17))
            have F_bucketStart_r0_19 := F_bucketStart_r0_17.other W19 (Or.inl (own_ne_arf E_r0_17 (hw _ (List.mem_of_getElem? (i := 1) rfl)) A_xX_17))
            have E_r0_19 := E_r0_17.wr W19
            have F_search_r0_19 := F_search_r0_17.other W19 (Or.inl (own_ne_arf E_r0_17 (hw _ (List.mem_of_getElem? (i := 1) rfl)) A_xX_17))
            have F_foundCount_r0_19 := F_foundCount_r0_17.other W19 (Or.inl (own_ne_arf E_r0_17 (hw _ (List.mem_of_getElem? (i := 1) rfl)) A_xX_17))
            have F_firstOnly_r0_19 := F_firstOnly_r0_17.other W19 (Or.inl (own_ne_arf E_r0_17 (hw _ (List.mem_of_getElem? (i := 1) rfl)) A_xX_17))
            have A_xN_19 := A_xN_17.other W19 ne_xN_xX
            have A_xF_19 := A_xF_17.other W19 ne_xF_xX
            have A_xD_19 := A_xD_17.other W19 (Ne.symm ne_xX_xD)
            have A_xB_19 := A_xB_17.other W19 (Ne.symm ne_xX_xB)
            have K19 := K17.wr W19 (Or.inl (List.mem_of_getElem? (i := 2) rfl))
            have N19 := Fr.snoc X19 N17 ge_xX
            have Z19 : n0 ≤ h19.size := Nat.le_trans Z17 (Keep.of_wr W19).1
            obtain ⟨f19, hf19⟩ : ∃ z, z = (own_set gY17 en (own_nf f12 se (en + (1 : Int32)))) := ⟨_, rfl⟩
            rw [← hf19] at A_xX_19
            refine own_go (fun tg k => st19 tg k) ?_
            show own_Fin _ _ _ _ _ _ _ (T19.setTop (mkF m 80 #[.val (.ref r0), .val (.int p1), .val (.int p2), .val (.int en), .val (.int (own_nf f12 se (en + (1 : Int32))))] []))
            refine own_go (fun _ k => XS.iload X19.here hx rfl (hb hby d7_80) rfl k) ?_
            show own_Fin _ _ _ _ _ _ _ (T19.setTop (mkF m 82 #[.val (.ref r0), .val (.int p1), .val (.int p2), .val (.int en), .val (.int (own_nf f12 se (en + (1 : Int32))))] [(.int (own_nf f12 se (en + (1 : Int32))))]))
            refine own_go (fun _ k => XS.istoreN X19.here hx rfl (hb hby d7_82) rfl (l' := #[.val (.ref r0), .val (.int p1), .val (.int p2), .val (.int (own_nf f12 se (en + (1 : Int32)))), .val (.int (own_nf f12 se (en + (1 : Int32))))]) rfl k) ?_
            show own_Fin _ _ _ _ _ _ _ (T19.setTop (mkF m 83 #[.val (.ref r0), .val (.int p1), .val (.int p2), .val (.int (own_nf f12 se (en + (1 : Int32)))), .val (.int (own_nf f12 se (en + (1 : Int32))))] []))
            refine own_go (fun _ k => XS.goto X19.here hx rfl (pc0 := 83) (pc' := 10) rfl (hb hby d7_83) (by decide) (by decide) k) ?_
            show own_Fin _ _ _ _ _ _ _ (T19.setTop (mkF m 10 #[.val (.ref r0), .val (.int p1), .val (.int p2), .val (.int (own_nf f12 se (en + (1 : Int32)))), .val (.int (own_nf f12 se (en + (1 : Int32))))] []))
            exact ihA _ (by subst hkA; exact own_Rm (F := F) (D := D) (e' := en) hI hc4) ((own_nf f12 se (en + (1 : Int32)))) f12 f19 f16 (cc + (1 : Int32)) (.val (.int (own_nf f12 se (en + (1 : Int32))))) T19 _ h19 rfl (own_en1 hI hc4) (own_fX hI hc4 hX hf12 Pq17_1 hf19) (by rw [hf12, hf16]; exact own_okst hI hc4 hK) (own_Rs hI hc4 hc6 hc9 hf12 hf16 hR) (own_mono X19 (by decide) (by decide)) N19 e19 (One.val rfl) Z19 K19 F_numbers_r0_19 F_elements_r0_19 F_foundIn_r0_19 F_next_r0_19 F_found_r0_19 F_bucketShift_r0_19 F_bucketStart_r0_19 E_r0_19 F_search_r0_19 F_foundCount_r0_19 F_firstOnly_r0_19 A_xN_19 A_xF_19 A_xX_19 A_xD_19 A_xB_19
          · refine own_go (fun _ k => XS.ifYes X8.here hx rfl (pc0 := 33) (pc' := 86) rfl (hb hby d7_33) rfl ((if0 _ _).trans (feq hc9).2) (by decide) (by decide) k) ?_
            show own_Fin _ _ _ _ _ _ _ (T8.setTop (mkF m 86 #[.val (.ref r0), .val (.int p1), .val (.int p2), .val (.int en), j4A] []))
            refine own_go (fun _ k => XS.aloadN X8.here hx rfl (hb hby d7_86) rfl rfl k) ?_
            show own_Fin _ _ _ _ _ _ _ (T8.setTop (mkF m 87 #[.val (.ref r0), .val (.int p1), .val (.int p2), .val (.int en), j4A] [(.ref r0)]))
            refine own_go (fun _ k => XS.iloadN X8.here hx rfl (hb hby d7_87) rfl k) ?_
            show own_Fin _ _ _ _ _ _ _ (T8.setTop (mkF m 88 #[.val (.ref r0), .val (.int p1), .val (.int p2), .val (.int en), j4A] [(.int en), (.ref r0)]))
            obtain ⟨cq20, q20, q20'⟩ := E_r0_AL.cell
            obtain ⟨_, _, ⟨T20, L20, k20, n20⟩, -, X20, ⟨Lc20, hQ20, l20, y20, z20⟩, st20⟩ := X8.privateBack hx (y := (⟨"com/example/reachability/reachability/CandidateList", "numberOf", "(I)I"⟩ : MethodName)) hown (mvT hZ (hw _ (List.mem_of_getElem? (i := 66) rfl))) (mvT hZ (hw _ (List.mem_of_getElem? (i := 67) rfl))) (own_selpriv (z := (⟨"com/example/reachability/reachability/CandidateList", "reset", "(Z)V"⟩ : MethodName)) rfl (mvT (args := #[]) hZ (hw _ (List.mem_of_getElem? (i := 41) rfl))) (Cond.privateMethod_at (mvP hZ (hw _ (List.mem_of_getElem? (i := 68) rfl)) (args := #[]))) (mvT hZ (hw _ (List.mem_of_getElem? (i := 67) rfl))) (by decide)) (Cond.privateMethod_at (mvP hZ (hw _ (List.mem_of_getElem? (i := 68) rfl)) (args := #[]))) (mvT hZ (hw _ (List.mem_of_getElem? (i := 69) rfl))) (by decide) (backOf (W := 0) (rm10 l Z a0 hw [] r0 en xN gN hAL n0 ZAL F_numbers_r0_AL A_xN_AL (own_nneg hI)) hZ (hw _ (List.mem_of_getElem? (i := 69) rfl)) (hw _ (List.mem_of_getElem? (i := 2) rfl)) (by decide) (by decide)) (g := (mkF m 88 #[.val (.ref r0), .val (.int p1), .val (.int p2), .val (.int en), j4A] [(.int en), (.ref r0)])) rfl (by rw [hml]; rfl) (Steps.refl _) (a := r0) (by rw [e8]; exact q20) q20' (argsL := [(.int en)]) (rest := []) (lenOf own_pd457 rfl) rfl (by show 2 * 0 + _ ≤ _; exact Nat.le_of_eq rfl) (hb hby d7_88) (fun _ _ => ⟨rfl, e8, (by decide : 0 + 0 ≤ _), (by decide : 0 + 0 ≤ _)⟩)
            dsimp only [Pt.U, Pt.locs, Pt.cells, Pt.slots] at X20 l20 y20 z20 st20 hQ20
            replace y20 : 0 = k20 := y20.symm
            replace z20 : 0 = n20 := z20.symm
            subst y20 z20
            obtain ⟨rfl, N20q, e20⟩ := hQ20
            have N20 : Fr n0 L20 := by rw [l20]; exact Fr.app N8 N20q
            refine own_go (fun tg k => st20.trans k) ?_
            show own_Fin _ _ _ _ _ _ _ (T20.setTop (mkF m 91 #[.val (.ref r0), .val (.int p1), .val (.int p2), .val (.int en), j4A] [(.int (own_f10 en gN))]))
            refine own_ret X20 hx hlk Bd.returns rfl (Or.inl ⟨rfl, by simp, _, rfl⟩) (hb hby d7_91) (Nat.le_of_ble_eq_true rfl) (Nat.le_of_ble_eq_true rfl) ?_
            rw [e20]
            refine ⟨(own_f10 en gN), X, ?_, N20, KAL, ?_, ?_, ?_, ?_, ?_, ?_, ?_, E_r0_AL, ?_, ?_, ?_, ?_, ?_, ?_, ?_⟩
            · rfl
            · first | (exact F_numbers_r0_AL) | (simp only [if_pos hc4, if_neg hc6, if_neg hc9]; exact F_numbers_r0_AL)
            · first | (exact F_elements_r0_AL) | (simp only [if_pos hc4, if_neg hc6, if_neg hc9]; exact F_elements_r0_AL)
            · first | (exact F_foundIn_r0_AL) | (simp only [if_pos hc4, if_neg hc6, if_neg hc9]; exact F_foundIn_r0_AL)
            · first | (exact F_next_r0_AL) | (simp only [if_pos hc4, if_neg hc6, if_neg hc9]; exact F_next_r0_AL)
            · first | (exact F_found_r0_AL) | (simp only [if_pos hc4, if_neg hc6, if_neg hc9]; exact F_found_r0_AL)
            · first | (exact F_bucketShift_r0_AL) | (simp only [if_pos hc4, if_neg hc6, if_neg hc9]; exact F_bucketShift_r0_AL)
            · first | (exact F_bucketStart_r0_AL) | (simp only [if_pos hc4, if_neg hc6, if_neg hc9]; exact F_bucketStart_r0_AL)
            · first | (exact F_search_r0_AL) | (simp only [if_pos hc4, if_neg hc6, if_neg hc9]; exact F_search_r0_AL)
            · (rw [show (own_find p1 p2 sh nB gB gN fo se fc gF gD) = _ from (own_Rend hR (Or.inr (Or.inr hc9)))]; exact F_foundCount_r0_AL)
            · first | (exact F_firstOnly_r0_AL) | (simp only [if_pos hc4, if_neg hc6, if_neg hc9]; exact F_firstOnly_r0_AL)
            · (rw [show (own_find p1 p2 sh nB gB gN fo se fc gF gD) = _ from (own_Rend hR (Or.inr (Or.inr hc9)))]; exact A_xF_AL)
            · first | (exact A_xX_AL) | (simp only [if_pos hc4, if_neg hc6, if_neg hc9]; exact A_xX_AL)
            · (rw [show (own_find p1 p2 sh nB gB gN fo se fc gF gD) = _ from (own_Rend hR (Or.inr (Or.inr hc9)))]; exact A_xD_AL)
            · (rw [show (own_find p1 p2 sh nB gB gN fo se fc gF gD) = _ from (own_Rend hR (Or.inr (Or.inr hc9)))]; exact ⟨hX, hK⟩)
      · refine own_go (fun _ k => XS.icmpYes X3.here hx rfl (pc0 := 16) (pc' := 86) rfl (hb hby d7_16) rfl (flt hc4).2.1 (by decide) (by decide) k) ?_
        show own_Fin _ _ _ _ _ _ _ (T3.setTop (mkF m 86 #[.val (.ref r0), .val (.int p1), .val (.int p2), .val (.int en), j4A] []))
        refine own_go (fun _ k => XS.aloadN X3.here hx rfl (hb hby d7_86) rfl rfl k) ?_
        show own_Fin _ _ _ _ _ _ _ (T3.setTop (mkF m 87 #[.val (.ref r0), .val (.int p1), .val (.int p2), .val (.int en), j4A] [(.ref r0)]))
        refine own_go (fun _ k => XS.iloadN X3.here hx rfl (hb hby d7_87) rfl k) ?_
        show own_Fin _ _ _ _ _ _ _ (T3.setTop (mkF m 88 #[.val (.ref r0), .val (.int p1), .val (.int p2), .val (.int en), j4A] [(.int en), (.ref r0)]))
        obtain ⟨cq21, q21, q21'⟩ := E_r0_AL.cell
        obtain ⟨_, _, ⟨T21, L21, k21, n21⟩, -, X21, ⟨Lc21, hQ21, l21, y21, z21⟩, st21⟩ := X3.privateBack hx (y := (⟨"com/example/reachability/reachability/CandidateList", "numberOf", "(I)I"⟩ : MethodName)) hown (mvT hZ (hw _ (List.mem_of_getElem? (i := 66) rfl))) (mvT hZ (hw _ (List.mem_of_getElem? (i := 67) rfl))) (own_selpriv (z := (⟨"com/example/reachability/reachability/CandidateList", "reset", "(Z)V"⟩ : MethodName)) rfl (mvT (args := #[]) hZ (hw _ (List.mem_of_getElem? (i := 41) rfl))) (Cond.privateMethod_at (mvP hZ (hw _ (List.mem_of_getElem? (i := 68) rfl)) (args := #[]))) (mvT hZ (hw _ (List.mem_of_getElem? (i := 67) rfl))) (by decide)) (Cond.privateMethod_at (mvP hZ (hw _ (List.mem_of_getElem? (i := 68) rfl)) (args := #[]))) (mvT hZ (hw _ (List.mem_of_getElem? (i := 69) rfl))) (by decide) (backOf (W := 0) (rm10 l Z a0 hw [] r0 en xN gN hAL n0 ZAL F_numbers_r0_AL A_xN_AL (own_nneg hI)) hZ (hw _ (List.mem_of_getElem? (i := 69) rfl)) (hw _ (List.mem_of_getElem? (i := 2) rfl)) (by decide) (by decide)) (g := (mkF m 88 #[.val (.ref r0), .val (.int p1), .val (.int p2), .val (.int en), j4A] [(.int en), (.ref r0)])) rfl (by rw [hml]; rfl) (Steps.refl _) (a := r0) (by rw [e3]; exact q21) q21' (argsL := [(.int en)]) (rest := []) (lenOf own_pd457 rfl) rfl (by show 2 * 0 + _ ≤ _; exact Nat.le_of_eq rfl) (hb hby d7_88) (fun _ _ => ⟨rfl, e3, (by decide : 0 + 0 ≤ _), (by decide : 0 + 0 ≤ _)⟩)
        dsimp only [Pt.U, Pt.locs, Pt.cells, Pt.slots] at X21 l21 y21 z21 st21 hQ21
        replace y21 : 0 = k21 := y21.symm
        replace z21 : 0 = n21 := z21.symm
        subst y21 z21
        obtain ⟨rfl, N21q, e21⟩ := hQ21
        have N21 : Fr n0 L21 := by rw [l21]; exact Fr.app NAL N21q
        refine own_go (fun tg k => st21.trans k) ?_
        show own_Fin _ _ _ _ _ _ _ (T21.setTop (mkF m 91 #[.val (.ref r0), .val (.int p1), .val (.int p2), .val (.int en), j4A] [(.int (own_f10 en gN))]))
        refine own_ret X21 hx hlk Bd.returns rfl (Or.inl ⟨rfl, by simp, _, rfl⟩) (hb hby d7_91) (Nat.le_of_ble_eq_true rfl) (Nat.le_of_ble_eq_true rfl) ?_
        rw [e21]
        refine ⟨(own_f10 en gN), X, ?_, N21, KAL, ?_, ?_, ?_, ?_, ?_, ?_, ?_, E_r0_AL, ?_, ?_, ?_, ?_, ?_, ?_, ?_⟩
        · rfl
        · first | (exact F_numbers_r0_AL) | (simp only [if_neg hc4]; exact F_numbers_r0_AL)
        · first | (exact F_elements_r0_AL) | (simp only [if_neg hc4]; exact F_elements_r0_AL)
        · first | (exact F_foundIn_r0_AL) | (simp only [if_neg hc4]; exact F_foundIn_r0_AL)
        · first | (exact F_next_r0_AL) | (simp only [if_neg hc4]; exact F_next_r0_AL)
        · first | (exact F_found_r0_AL) | (simp only [if_neg hc4]; exact F_found_r0_AL)
        · first | (exact F_bucketShift_r0_AL) | (simp only [if_neg hc4]; exact F_bucketShift_r0_AL)
        · first | (exact F_bucketStart_r0_AL) | (simp only [if_neg hc4]; exact F_bucketStart_r0_AL)
        · first | (exact F_search_r0_AL) | (simp only [if_neg hc4]; exact F_search_r0_AL)
        · (rw [show (own_find p1 p2 sh nB gB gN fo se fc gF gD) = _ from (own_Rend hR (Or.inl hc4))]; exact F_foundCount_r0_AL)
        · first | (exact F_firstOnly_r0_AL) | (simp only [if_neg hc4]; exact F_firstOnly_r0_AL)
        · (rw [show (own_find p1 p2 sh nB gB gN fo se fc gF gD) = _ from (own_Rend hR (Or.inl hc4))]; exact A_xF_AL)
        · first | (exact A_xX_AL) | (simp only [if_neg hc4]; exact A_xX_AL)
        · (rw [show (own_find p1 p2 sh nB gB gN fo se fc gF gD) = _ from (own_Rend hR (Or.inl hc4))]; exact A_xD_AL)
        · (rw [show (own_find p1 p2 sh nB gB gN fo se fc gF gD) = _ from (own_Rend hR (Or.inl hc4))]; exact ⟨hX, hK⟩)
  exact loopA _ ((own_nf gF se (own_f8 p1 sh nB gB gN))) gF gY2 gD fc (.unset) T2 _ T2.heap rfl (own_enn (own_S03 hp.1)) (by have q := Pq2_1.1; exact own_invz (own_S03 hp.1).1 hp.2.1 q Pq2_1.2) hp.2.2 (own_R0 _ _ _ _ _ _ _ _ (own_enn (own_S03 hp.1)).1) (own_mono X2 (by decide) (by decide)) N2 rfl One.u Z2 K2 F_numbers_r0_2 F_elements_r0_2 F_foundIn_r0_2 F_next_r0_2 F_found_r0_2 F_bucketShift_r0_2 F_bucketStart_r0_2 E_r0_2 F_search_r0_2 F_foundCount_r0_2 F_firstOnly_r0_2 A_xN_2 A_xF_2 A_xX_2 A_xD_2 A_xB_2
theorem d11_0 : decode prog_2_method_17_code 0 = .ok (.aload_n 0, 1) := by decide +kernel
theorem d11_1 : decode prog_2_method_17_code 1 = .ok (.getfield 60, 3) := by decide +kernel
theorem d11_4 : decode prog_2_method_17_code 4 = .ok (.newarray .int, 2) := by decide +kernel
theorem d11_6 : decode prog_2_method_17_code 6 = .ok (.astore_n 1, 1) := by decide +kernel
theorem d11_7 : decode prog_2_method_17_code 7 = .ok (.iconst 0, 1) := by decide +kernel
theorem d11_8 : decode prog_2_method_17_code 8 = .ok (.istore_n 2, 1) := by decide +kernel
theorem d11_9 : decode prog_2_method_17_code 9 = .ok (.iload_n 2, 1) := by decide +kernel
theorem d11_10 : decode prog_2_method_17_code 10 = .ok (.aload_n 0, 1) := by decide +kernel
theorem d11_11 : decode prog_2_method_17_code 11 = .ok (.getfield 60, 3) := by decide +kernel
theorem d11_14 : decode prog_2_method_17_code 14 = .ok (.if_icmp .ge 23, 3) := by decide +kernel
theorem d11_17 : decode prog_2_method_17_code 17 = .ok (.aload_n 1, 1) := by decide +kernel
theorem d11_18 : decode prog_2_method_17_code 18 = .ok (.iload_n 2, 1) := by decide +kernel
theorem d11_19 : decode prog_2_method_17_code 19 = .ok (.aload_n 0, 1) := by decide +kernel
theorem d11_20 : decode prog_2_method_17_code 20 = .ok (.getfield 20, 3) := by decide +kernel
theorem d11_23 : decode prog_2_method_17_code 23 = .ok (.aload_n 0, 1) := by decide +kernel
theorem d11_24 : decode prog_2_method_17_code 24 = .ok (.getfield 29, 3) := by decide +kernel
theorem d11_27 : decode prog_2_method_17_code 27 = .ok (.iload_n 2, 1) := by decide +kernel
theorem d11_28 : decode prog_2_method_17_code 28 = .ok (.iaload, 1) := by decide +kernel
theorem d11_29 : decode prog_2_method_17_code 29 = .ok (.iaload, 1) := by decide +kernel
theorem d11_30 : decode prog_2_method_17_code 30 = .ok (.iastore, 1) := by decide +kernel
theorem d11_31 : decode prog_2_method_17_code 31 = .ok (.iinc 2 1, 3) := by decide +kernel
theorem d11_34 : decode prog_2_method_17_code 34 = .ok (.goto (-25), 3) := by decide +kernel
theorem d11_37 : decode prog_2_method_17_code 37 = .ok (.aload_n 1, 1) := by decide +kernel
theorem d11_38 : decode prog_2_method_17_code 38 = .ok (.areturn, 1) := by decide +kernel
theorem pn_11 : plainName "com/example/reachability/reachability/CandidateList" = true := by first | (simp [plainName, overriddenIn]; done) | decide +kernel
theorem ef_11 (m : MethodId) (r0 : Addr) : entryFrame m #[(.ref r0)] 3 = mkF m 0 #[.val (.ref r0), .unset, .unset] [] := by first | (simp [entryFrame, mkF, argsToLocals, Value.category]; done) | rfl
def rm11_room : Room := { frames := 0, cells := 1, slots := 3, locals := 0 }
def Qrm11 (Z : State) (r0 : Addr) (fc : Int32) (xE : Addr) (xD : Addr) (gE : Nat → Int32) (gD : Nat → Int32) (h0 : Heap) (n0 : Nat) (v : Option Value) (h : Heap) (L : List Loc) : Prop := ∃ rb : Addr, ∃ gR : Nat → Int32, v = some (.ref rb) ∧ Fr n0 L ∧ Keep h0 h [] ∧ h0.size ≤ rb ∧ own_Arf Z h rb .int fc (fun i => .int (gR i)) ∧ ∀ j : Nat, (j : Int) < fc.toInt → gR j = gE (gD j).toNatClampNeg
set_option maxRecDepth 65536 in
set_option maxHeartbeats 40000000 in
theorem rm11 (l : Launch) (Z : State) (a0 : Array Value) (hw : ∀ d ∈ tables_1, d.before a0 Z = true) (ws : List Jvm.Cond) (r0 : Addr) (fc : Int32) (xE : Addr) (xD : Addr) (gE : Nat → Int32) (gD : Nat → Int32) (h0 : Heap) (n0 : Nat) (Z0 : n0 ≤ h0.size) (F_foundCount_r0_0 : Fld Z h0 r0 "com/example/reachability/reachability/CandidateList" "foundCount" "I" (.int fc)) (F_elements_r0_0 : Fld Z h0 r0 "com/example/reachability/reachability/CandidateList" "elements" "[I" (.ref xE)) (F_found_r0_0 : Fld Z h0 r0 "com/example/reachability/reachability/CandidateList" "found" "[I" (.ref xD)) (A_xE_0 : own_Arf Z h0 xE .int (3 : Int32) (fun i => .int (gE i))) (A_xD_0 : own_Arf Z h0 xD .int (3 : Int32) (fun i => .int (gD i))) (hp : own_fe fc gD) :
    MetFree l (⟨"com/example/reachability/reachability/CandidateList", "foundElements", "()[I"⟩ : MethodName) (head1 (Jvm.Cond.code (⟨"com/example/reachability/reachability/CandidateList", "foundElements", "()[I"⟩ : MethodName) prog_2_method_17_code 3 (some (.array .int)) :: ws) rm11_room) (fun a U => a = #[(.ref r0)] ∧ Z.Warmed39 U.vm ∧ U.heap = h0) (fun _ _ _ _ _ => True) (fun _ U o U' => ∃ v L, o = .returned v ∧ Qrm11 Z r0 fc xE xD gE gD h0 n0 v U'.heap L ∧ FrameEnd U o U' L rm11_room.cells rm11_room.slots) := by
  refine MetFree.of_bodySF (plainFor_of_name pn_11) hisR ?_
  intro p e s m args below meth c s₁ Bd hml0 hP hK
  obtain ⟨rfl, hZ, hh⟩ := hP
  have hx := Bd.exec
  have hby := Bd.bytes
  have hml : c.maxLocals = 3 := hml0
  have hown : s.vm.findClass "com/example/reachability/reachability/CandidateList" = some m.cls := findClass_of_methodNamed Bd.named
  have hnm := (name_of_methodNamed Bd.named Bd.method).1
  have hlk : meth.locks = false := BodyLoose.notSynchronized Bd
  have X0 : Stand p l e rm11_room s m #[(.ref r0)] below meth c s₁ [] 0 0 := Stand.of_body Bd
  have e0 : s₁.heap = h0 := by rw [← hh, Bd.state]; rfl
  have N0 := Fr.nil n0
  show own_Fin p.tables e below s (Qrm11 Z r0 fc xE xD gE gD h0 n0) rm11_room.cells rm11_room.slots (s₁.setTop (entryFrame m #[(.ref r0)] 3))
  rw [ef_11]
  show own_Fin _ _ _ _ _ _ _ (s₁.setTop (mkF m 0 #[.val (.ref r0), .unset, .unset] []))
  have K0 := Keep.refl h0 []
  refine own_go (fun _ k => XS.aloadN X0.here hx rfl (hb hby d11_0) rfl rfl k) ?_
  show own_Fin _ _ _ _ _ _ _ (s₁.setTop (mkF m 1 #[.val (.ref r0), .unset, .unset] [(.ref r0)]))
  obtain ⟨T1, X1, e1, st1⟩ := getF X0 hx hZ hown (host := "") (Or.inl (hw _ (List.mem_of_getElem? (i := 44) rfl))) Via.refl e0 F_foundCount_r0_0 (g := (mkF m 1 #[.val (.ref r0), .unset, .unset] [(.ref r0)])) rfl rfl (hb hby d11_1)
  refine own_go (fun tg k => st1 tg k) ?_
  show own_Fin _ _ _ _ _ _ _ (T1.setTop (mkF m 4 #[.val (.ref r0), .unset, .unset] [(.int fc)]))
  obtain ⟨T2, h2, k2, X2, e2, E2, A2, st2⟩ := newP X1 hx hZ (hw _ (List.mem_of_getElem? (i := 3) rfl)) e1 (g := (mkF m 4 #[.val (.ref r0), .unset, .unset] [(.int fc)])) rfl (hb hby d11_4) rfl (own_feneg hp) (cap := 3) (own_fecap hp) (by decide) (by decide) (by decide)
  obtain ⟨b2, g2⟩ : ∃ z, z = h0.size := ⟨_, rfl⟩
  rw [← g2] at A2 st2
  have ne_r0_b2 : r0 ≠ b2 := Nat.ne_of_lt (Nat.lt_of_lt_of_le F_foundCount_r0_0.lt (Nat.le_of_eq g2.symm))
  have ne_xE_b2 : xE ≠ b2 := Nat.ne_of_lt (Nat.lt_of_lt_of_le A_xE_0.lt (Nat.le_of_eq g2.symm))
  have ne_xD_b2 : xD ≠ b2 := Nat.ne_of_lt (Nat.lt_of_lt_of_le A_xD_0.lt (Nat.le_of_eq g2.symm))
  have ge_b2 : n0 ≤ b2 := Nat.le_trans Z0 (Nat.le_of_eq g2.symm)
  have sz_b2 : h0.size ≤ b2 := Nat.le_trans K0.1 (Nat.le_of_eq g2.symm)
  have F_foundCount_r0_2 := F_foundCount_r0_0.ext E2
  have F_elements_r0_2 := F_elements_r0_0.ext E2
  have F_found_r0_2 := F_found_r0_0.ext E2
  have A_xE_2 := A_xE_0.ext E2
  have A_xD_2 := A_xD_0.ext E2
  have K2 := K0.ext E2
  have Z2 : n0 ≤ h2.size := Nat.le_trans Z0 E2.1
  have A_b2_2 : own_Arf Z h2 b2 .int fc (fun i => .int ((fun _ => (0 : Int32)) i)) := own_Arf.new A2 (own_feneg hp)
  refine own_go (fun tg k => st2 tg k) ?_
  show own_Fin _ _ _ _ _ _ _ (T2.setTop (mkF m 6 #[.val (.ref r0), .unset, .unset] [(.ref b2)]))
  refine own_go (fun _ k => XS.astoreN X2.here hx rfl (hb hby d11_6) rfl rfl (l' := #[.val (.ref r0), .val (.ref b2), .unset]) rfl k) ?_
  show own_Fin _ _ _ _ _ _ _ (T2.setTop (mkF m 7 #[.val (.ref r0), .val (.ref b2), .unset] []))
  refine own_go (fun _ k => XS.iconst X2.here hx rfl (hb hby d11_7) k) ?_
  show own_Fin _ _ _ _ _ _ _ (T2.setTop (mkF m 8 #[.val (.ref r0), .val (.ref b2), .unset] [(.int (0 : Int32))]))
  refine own_go (fun _ k => XS.istoreN X2.here hx rfl (hb hby d11_8) rfl (l' := #[.val (.ref r0), .val (.ref b2), .val (.int (0 : Int32))]) rfl k) ?_
  show own_Fin _ _ _ _ _ _ _ (T2.setTop (mkF m 9 #[.val (.ref r0), .val (.ref b2), .val (.int (0 : Int32))] []))
  have loopA : ∀ (kA : Nat) (i : Int32) (GG : Nat → Int32) (TAL : State) (LAL : List Loc) (hAL : Heap), kA = (fc.toInt - i.toInt).toNat → own_fl fc gE gD GG i → Stand p l e rm11_room s m #[(.ref r0)] below meth c TAL LAL 1 3 → Fr n0 LAL → TAL.heap = hAL → n0 ≤ hAL.size → Keep h0 hAL [] → Fld Z hAL r0 "com/example/reachability/reachability/CandidateList" "foundCount" "I" (.int fc) → Fld Z hAL r0 "com/example/reachability/reachability/CandidateList" "elements" "[I" (.ref xE) → Fld Z hAL r0 "com/example/reachability/reachability/CandidateList" "found" "[I" (.ref xD) → own_Arf Z hAL xE .int (3 : Int32) (fun i => .int (gE i)) → own_Arf Z hAL xD .int (3 : Int32) (fun i => .int (gD i)) → own_Arf Z hAL b2 .int fc (fun i => .int (GG i)) → own_Fin p.tables e below s (Qrm11 Z r0 fc xE xD gE gD h0 n0) rm11_room.cells rm11_room.slots (TAL.setTop (mkF m 9 #[.val (.ref r0), .val (.ref b2), .val (.int i)] [])) := by
    intro kA
    induction kA using Nat.strongRecOn with
    | _ kA ihA =>
      intro i GG TAL LAL hAL hkA hL XAL NAL eAL ZAL KAL F_foundCount_r0_AL F_elements_r0_AL F_found_r0_AL A_xE_AL A_xD_AL A_b2_AL
      show own_Fin _ _ _ _ _ _ _ (TAL.setTop (mkF m 9 #[.val (.ref r0), .val (.ref b2), .val (.int i)] []))
      refine own_go (fun _ k => XS.iloadN XAL.here hx rfl (hb hby d11_9) rfl k) ?_
      show own_Fin _ _ _ _ _ _ _ (TAL.setTop (mkF m 10 #[.val (.ref r0), .val (.ref b2), .val (.int i)] [(.int i)]))
      refine own_go (fun _ k => XS.aloadN XAL.here hx rfl (hb hby d11_10) rfl rfl k) ?_
      show own_Fin _ _ _ _ _ _ _ (TAL.setTop (mkF m 11 #[.val (.ref r0), .val (.ref b2), .val (.int i)] [(.ref r0), (.int i)]))
      obtain ⟨T3, X3, e3, st3⟩ := getF XAL hx hZ hown (host := "") (Or.inl (hw _ (List.mem_of_getElem? (i := 44) rfl))) Via.refl eAL F_foundCount_r0_AL (g := (mkF m 11 #[.val (.ref r0), .val (.ref b2), .val (.int i)] [(.ref r0), (.int i)])) rfl rfl (hb hby d11_11)
      refine own_go (fun tg k => st3 tg k) ?_
      show own_Fin _ _ _ _ _ _ _ (T3.setTop (mkF m 14 #[.val (.ref r0), .val (.ref b2), .val (.int i)] [(.int fc), (.int i)]))
      by_cases hc4 : i < fc
      · refine own_go (fun _ k => XS.icmpNo X3.here hx rfl (hb hby d11_14) rfl (tlt hc4).2.1 k) ?_
        show own_Fin _ _ _ _ _ _ _ (T3.setTop (mkF m 17 #[.val (.ref r0), .val (.ref b2), .val (.int i)] []))
        refine own_go (fun _ k => XS.aloadN X3.here hx rfl (hb hby d11_17) rfl rfl k) ?_
        show own_Fin _ _ _ _ _ _ _ (T3.setTop (mkF m 18 #[.val (.ref r0), .val (.ref b2), .val (.int i)] [(.ref b2)]))
        refine own_go (fun _ k => XS.iloadN X3.here hx rfl (hb hby d11_18) rfl k) ?_
        show own_Fin _ _ _ _ _ _ _ (T3.setTop (mkF m 19 #[.val (.ref r0), .val (.ref b2), .val (.int i)] [(.int i), (.ref b2)]))
        refine own_go (fun _ k => XS.aloadN X3.here hx rfl (hb hby d11_19) rfl rfl k) ?_
        show own_Fin _ _ _ _ _ _ _ (T3.setTop (mkF m 20 #[.val (.ref r0), .val (.ref b2), .val (.int i)] [(.ref r0), (.int i), (.ref b2)]))
        obtain ⟨T5, X5, e5, st5⟩ := getF X3 hx hZ hown (host := "") (Or.inl (hw _ (List.mem_of_getElem? (i := 16) rfl))) Via.refl e3 F_elements_r0_AL (g := (mkF m 20 #[.val (.ref r0), .val (.ref b2), .val (.int i)] [(.ref r0), (.int i), (.ref b2)])) rfl rfl (hb hby d11_20)
        refine own_go (fun tg k => st5 tg k) ?_
        show own_Fin _ _ _ _ _ _ _ (T5.setTop (mkF m 23 #[.val (.ref r0), .val (.ref b2), .val (.int i)] [(.ref xE), (.int i), (.ref b2)]))
        refine own_go (fun _ k => XS.aloadN X5.here hx rfl (hb hby d11_23) rfl rfl k) ?_
        show own_Fin _ _ _ _ _ _ _ (T5.setTop (mkF m 24 #[.val (.ref r0), .val (.ref b2), .val (.int i)] [(.ref r0), (.ref xE), (.int i), (.ref b2)]))
        obtain ⟨T6, X6, e6, st6⟩ := getF X5 hx hZ hown (host := "") (Or.inl (hw _ (List.mem_of_getElem? (i := 22) rfl))) Via.refl e5 F_found_r0_AL (g := (mkF m 24 #[.val (.ref r0), .val (.ref b2), .val (.int i)] [(.ref r0), (.ref xE), (.int i), (.ref b2)])) rfl rfl (hb hby d11_24)
        refine own_go (fun tg k => st6 tg k) ?_
        show own_Fin _ _ _ _ _ _ _ (T6.setTop (mkF m 27 #[.val (.ref r0), .val (.ref b2), .val (.int i)] [(.ref xD), (.ref xE), (.int i), (.ref b2)]))
        refine own_go (fun _ k => XS.iloadN X6.here hx rfl (hb hby d11_27) rfl k) ?_
        show own_Fin _ _ _ _ _ _ _ (T6.setTop (mkF m 28 #[.val (.ref r0), .val (.ref b2), .val (.int i)] [(.int i), (.ref xD), (.ref xE), (.int i), (.ref b2)]))
        refine own_go (fun tg k => own_iaload X6 hx hZ e6 A_xD_AL (j := i) (own_flb hp hL hc4).1 (x := (gD i.toNatClampNeg)) rfl (g := (mkF m 28 #[.val (.ref r0), .val (.ref b2), .val (.int i)] [(.int i), (.ref xD), (.ref xE), (.int i), (.ref b2)])) rfl rfl (hb hby d11_28) tg k) ?_
        show own_Fin _ _ _ _ _ _ _ (T6.setTop (mkF m 29 #[.val (.ref r0), .val (.ref b2), .val (.int i)] [(.int (gD i.toNatClampNeg)), (.ref xE), (.int i), (.ref b2)]))
        refine own_go (fun tg k => own_iaload X6 hx hZ e6 A_xE_AL (j := (gD i.toNatClampNeg)) (own_flb hp hL hc4).2.2 (x := (gE (gD i.toNatClampNeg).toNatClampNeg)) rfl (g := (mkF m 29 #[.val (.ref r0), .val (.ref b2), .val (.int i)] [(.int (gD i.toNatClampNeg)), (.ref xE), (.int i), (.ref b2)])) rfl rfl (hb hby d11_29) tg k) ?_
        show own_Fin _ _ _ _ _ _ _ (T6.setTop (mkF m 30 #[.val (.ref r0), .val (.ref b2), .val (.int i)] [(.int (gE (gD i.toNatClampNeg).toNatClampNeg)), (.int i), (.ref b2)]))
        obtain ⟨T7, h7, X7, e7, W7, A_b2_7, st7⟩ := own_stI X6 hx hZ e6 A_b2_AL (j := i) (own_flb hp hL hc4).2.1 (g := (mkF m 30 #[.val (.ref r0), .val (.ref b2), .val (.int i)] [(.int (gE (gD i.toNatClampNeg).toNatClampNeg)), (.int i), (.ref b2)])) rfl rfl (hb hby d11_30)
        have F_foundCount_r0_7 := F_foundCount_r0_AL.other W7 (Or.inl ne_r0_b2)
        have F_elements_r0_7 := F_elements_r0_AL.other W7 (Or.inl ne_r0_b2)
        have F_found_r0_7 := F_found_r0_AL.other W7 (Or.inl ne_r0_b2)
        have A_xE_7 := A_xE_AL.other W7 ne_xE_b2
        have A_xD_7 := A_xD_AL.other W7 ne_xD_b2
        have K7 := KAL.wr W7 (Or.inr sz_b2)
        have N7 := Fr.snoc X7 NAL ge_b2
        have Z7 : n0 ≤ h7.size := Nat.le_trans ZAL (Keep.of_wr W7).1
        obtain ⟨f7, hf7⟩ : ∃ z, z = (own_set GG i (gE (gD i.toNatClampNeg).toNatClampNeg)) := ⟨_, rfl⟩
        rw [← hf7] at A_b2_7
        refine own_go (fun tg k => st7 tg k) ?_
        show own_Fin _ _ _ _ _ _ _ (T7.setTop (mkF m 31 #[.val (.ref r0), .val (.ref b2), .val (.int i)] []))
        refine own_go (fun _ k => XS.iinc X7.here hx rfl (hb hby d11_31) rfl (l' := #[.val (.ref r0), .val (.ref b2), .val (.int (i + (1 : Int32)))]) rfl k) ?_
        show own_Fin _ _ _ _ _ _ _ (T7.setTop (mkF m 34 #[.val (.ref r0), .val (.ref b2), .val (.int (i + (1 : Int32)))] []))
        refine own_go (fun _ k => XS.goto X7.here hx rfl (pc0 := 34) (pc' := 9) rfl (hb hby d11_34) (by decide) (by decide) k) ?_
        show own_Fin _ _ _ _ _ _ _ (T7.setTop (mkF m 9 #[.val (.ref r0), .val (.ref b2), .val (.int (i + (1 : Int32)))] []))
        exact ihA _ (by subst hkA; exact (own_fls hp hL hc4 hf7).1) ((i + (1 : Int32))) f7 T7 _ h7 rfl (own_fls hp hL hc4 hf7).2 (own_mono X7 (by decide) (by decide)) N7 e7 Z7 K7 F_foundCount_r0_7 F_elements_r0_7 F_found_r0_7 A_xE_7 A_xD_7 A_b2_7
      · refine own_go (fun _ k => XS.icmpYes X3.here hx rfl (pc0 := 14) (pc' := 37) rfl (hb hby d11_14) rfl (flt hc4).2.1 (by decide) (by decide) k) ?_
        show own_Fin _ _ _ _ _ _ _ (T3.setTop (mkF m 37 #[.val (.ref r0), .val (.ref b2), .val (.int i)] []))
        refine own_go (fun _ k => XS.aloadN X3.here hx rfl (hb hby d11_37) rfl rfl k) ?_
        show own_Fin _ _ _ _ _ _ _ (T3.setTop (mkF m 38 #[.val (.ref r0), .val (.ref b2), .val (.int i)] [(.ref b2)]))
        refine own_ret X3 hx hlk Bd.returns rfl (Or.inr (Or.inr (Or.inr (Or.inr ⟨rfl, rfl, rfl⟩)))) (hb hby d11_38) (Nat.le_of_ble_eq_true rfl) (Nat.le_of_ble_eq_true rfl) ?_
        rw [e3]
        refine ⟨b2, GG, ?_, NAL, KAL, sz_b2, ?_, ?_⟩
        · rfl
        · first | (exact A_b2_AL) | (simp only [if_neg hc4]; exact A_b2_AL)
        · first | (exact own_fle hL hc4) | (simp only [if_neg hc4]; exact own_fle hL hc4)
  exact loopA _ ((0 : Int32)) (fun _ => (0 : Int32)) T2 _ h2 rfl (own_fl0 hp) (own_mono X2 (by decide) (by decide)) N0 e2 Z2 K2 F_foundCount_r0_2 F_elements_r0_2 F_found_r0_2 A_xE_2 A_xD_2 A_b2_2
theorem d12_0 : decode method_2_code 0 = .ok (.iload_n 1, 1) := by decide +kernel
theorem d12_1 : decode method_2_code 1 = .ok (.iload_n 0, 1) := by decide +kernel
theorem d12_2 : decode method_2_code 2 = .ok (.if_icmp .gt 12, 3) := by decide +kernel
theorem d12_5 : decode method_2_code 5 = .ok (.iload_n 0, 1) := by decide +kernel
theorem d12_6 : decode method_2_code 6 = .ok (.iload_n 2, 1) := by decide +kernel
theorem d12_7 : decode method_2_code 7 = .ok (.if_icmp .gt 7, 3) := by decide +kernel
theorem d12_10 : decode method_2_code 10 = .ok (.iconst 1, 1) := by decide +kernel
theorem d12_11 : decode method_2_code 11 = .ok (.goto 4, 3) := by decide +kernel
theorem d12_14 : decode method_2_code 14 = .ok (.iconst 0, 1) := by decide +kernel
theorem d12_15 : decode method_2_code 15 = .ok (.ireturn, 1) := by decide +kernel
theorem pn_12 : plainName "com/example/reachability/reachability/CandidateListFoundElementsPinLaw" = true := by first | (simp [plainName, overriddenIn]; done) | decide +kernel
theorem ef_12 (m : MethodId) (p0 : Int32) (p1 : Int32) (p2 : Int32) : entryFrame m #[(.int p0), (.int p1), (.int p2)] 3 = mkF m 0 #[.val (.int p0), .val (.int p1), .val (.int p2)] [] := by first | (simp [entryFrame, mkF, argsToLocals, Value.category]; done) | rfl
def own_rm12_room : Room := { frames := 0, cells := 0, slots := 0, locals := 0 }
def own_f12 (p0 : Int32) (p1 : Int32) (p2 : Int32) : Int32 := (if p0 < p1 then ((0 : Int32)) else ((if p2 < p0 then ((0 : Int32)) else ((1 : Int32)))))
theorem own_lf_own_f12_1 {p0 : Int32} {p1 : Int32} {p2 : Int32} (hc1 : p0 < p1) : (some (.int (0 : Int32)) : Option Value) = some (.int (own_f12 p0 p1 p2)) := by
  first | (simp only [own_f12, if_pos hc1]; done) | (simp only [own_f12, if_pos hc1]; rfl) | rfl
theorem own_lf_own_f12_2 {p0 : Int32} {p1 : Int32} {p2 : Int32} (hc1 : ¬ (p0 < p1)) (hc2 : p2 < p0) : (some (.int (0 : Int32)) : Option Value) = some (.int (own_f12 p0 p1 p2)) := by
  first | (simp only [own_f12, if_neg hc1, if_pos hc2]; done) | (simp only [own_f12, if_neg hc1, if_pos hc2]; rfl) | rfl
theorem own_lf_own_f12_3 {p0 : Int32} {p1 : Int32} {p2 : Int32} (hc1 : ¬ (p0 < p1)) (hc2 : ¬ (p2 < p0)) : (some (.int (1 : Int32)) : Option Value) = some (.int (own_f12 p0 p1 p2)) := by
  first | (simp only [own_f12, if_neg hc1, if_neg hc2]; done) | (simp only [own_f12, if_neg hc1, if_neg hc2]; rfl) | rfl
set_option maxRecDepth 65536 in
set_option maxHeartbeats 40000000 in
theorem rm12 (l : Launch) (Z : State) (a0 : Array Value) (hw : ∀ d ∈ tables_1, d.before a0 Z = true) (ws : List Jvm.Cond) (p0 : Int32) (p1 : Int32) (p2 : Int32) (h0 : Heap) (n0 : Nat) (Z0 : n0 ≤ h0.size) :
    MetFree l (⟨"com/example/reachability/reachability/CandidateListFoundElementsPinLaw", "in", "(III)Z"⟩ : MethodName) (head1 (Jvm.Cond.code (⟨"com/example/reachability/reachability/CandidateListFoundElementsPinLaw", "in", "(III)Z"⟩ : MethodName) method_2_code 3 (some .boolean) :: ws) own_rm12_room) (fun a U => a = #[(.int p0), (.int p1), (.int p2)] ∧ Z.Warmed39 U.vm ∧ U.heap = h0) (fun _ _ _ _ _ => True) (fun _ U o U' => ∃ v L, o = .returned v ∧ own_QP (some (.int (own_f12 p0 p1 p2))) h0 n0 v U'.heap L ∧ FrameEnd U o U' L own_rm12_room.cells own_rm12_room.slots) := by
  refine MetFree.of_bodySF (plainFor_of_name pn_12) hisR ?_
  intro p e s m args below meth c s₁ Bd hml0 hP hK
  obtain ⟨rfl, hZ, hh⟩ := hP
  have hx := Bd.exec
  have hby := Bd.bytes
  have hml : c.maxLocals = 3 := hml0
  have hown : s.vm.findClass "com/example/reachability/reachability/CandidateListFoundElementsPinLaw" = some m.cls := findClass_of_methodNamed Bd.named
  have hnm := (name_of_methodNamed Bd.named Bd.method).1
  have hlk : meth.locks = false := BodyLoose.notSynchronized Bd
  have X0 : Stand p l e own_rm12_room s m #[(.int p0), (.int p1), (.int p2)] below meth c s₁ [] 0 0 := Stand.of_body Bd
  have e0 : s₁.heap = h0 := by rw [← hh, Bd.state]; rfl
  have N0 := Fr.nil n0
  show own_Fin p.tables e below s (own_QP (some (.int (own_f12 p0 p1 p2))) h0 n0) own_rm12_room.cells own_rm12_room.slots (s₁.setTop (entryFrame m #[(.int p0), (.int p1), (.int p2)] 3))
  rw [ef_12]
  show own_Fin _ _ _ _ _ _ _ (s₁.setTop (mkF m 0 #[.val (.int p0), .val (.int p1), .val (.int p2)] []))
  refine own_go (fun _ k => XS.iloadN X0.here hx rfl (hb hby d12_0) rfl k) ?_
  show own_Fin _ _ _ _ _ _ _ (s₁.setTop (mkF m 1 #[.val (.int p0), .val (.int p1), .val (.int p2)] [(.int p1)]))
  refine own_go (fun _ k => XS.iloadN X0.here hx rfl (hb hby d12_1) rfl k) ?_
  show own_Fin _ _ _ _ _ _ _ (s₁.setTop (mkF m 2 #[.val (.int p0), .val (.int p1), .val (.int p2)] [(.int p0), (.int p1)]))
  by_cases hc1 : p0 < p1
  · refine own_go (fun _ k => XS.icmpYes X0.here hx rfl (pc0 := 2) (pc' := 14) rfl (hb hby d12_2) rfl (tlt hc1).2.2.1 (by decide) (by decide) k) ?_
    show own_Fin _ _ _ _ _ _ _ (s₁.setTop (mkF m 14 #[.val (.int p0), .val (.int p1), .val (.int p2)] []))
    refine own_go (fun _ k => XS.iconst X0.here hx rfl (hb hby d12_14) k) ?_
    show own_Fin _ _ _ _ _ _ _ (s₁.setTop (mkF m 15 #[.val (.int p0), .val (.int p1), .val (.int p2)] [(.int (0 : Int32))]))
    refine own_ret X0 hx hlk Bd.returns rfl (Or.inl ⟨rfl, by simp, _, rfl⟩) (hb hby d12_15) (Nat.le_of_ble_eq_true rfl) (Nat.le_of_ble_eq_true rfl) ?_
    exact ⟨(own_lf_own_f12_1 (p0 := p0) (p1 := p1) (p2 := p2) hc1), N0, e0⟩
  · refine own_go (fun _ k => XS.icmpNo X0.here hx rfl (hb hby d12_2) rfl (flt hc1).2.2.1 k) ?_
    show own_Fin _ _ _ _ _ _ _ (s₁.setTop (mkF m 5 #[.val (.int p0), .val (.int p1), .val (.int p2)] []))
    refine own_go (fun _ k => XS.iloadN X0.here hx rfl (hb hby d12_5) rfl k) ?_
    show own_Fin _ _ _ _ _ _ _ (s₁.setTop (mkF m 6 #[.val (.int p0), .val (.int p1), .val (.int p2)] [(.int p0)]))
    refine own_go (fun _ k => XS.iloadN X0.here hx rfl (hb hby d12_6) rfl k) ?_
    show own_Fin _ _ _ _ _ _ _ (s₁.setTop (mkF m 7 #[.val (.int p0), .val (.int p1), .val (.int p2)] [(.int p2), (.int p0)]))
    by_cases hc2 : p2 < p0
    · refine own_go (fun _ k => XS.icmpYes X0.here hx rfl (pc0 := 7) (pc' := 14) rfl (hb hby d12_7) rfl (tlt hc2).2.2.1 (by decide) (by decide) k) ?_
      show own_Fin _ _ _ _ _ _ _ (s₁.setTop (mkF m 14 #[.val (.int p0), .val (.int p1), .val (.int p2)] []))
      refine own_go (fun _ k => XS.iconst X0.here hx rfl (hb hby d12_14) k) ?_
      show own_Fin _ _ _ _ _ _ _ (s₁.setTop (mkF m 15 #[.val (.int p0), .val (.int p1), .val (.int p2)] [(.int (0 : Int32))]))
      refine own_ret X0 hx hlk Bd.returns rfl (Or.inl ⟨rfl, by simp, _, rfl⟩) (hb hby d12_15) (Nat.le_of_ble_eq_true rfl) (Nat.le_of_ble_eq_true rfl) ?_
      exact ⟨(own_lf_own_f12_2 (p0 := p0) (p1 := p1) (p2 := p2) hc1 hc2), N0, e0⟩
    · refine own_go (fun _ k => XS.icmpNo X0.here hx rfl (hb hby d12_7) rfl (flt hc2).2.2.1 k) ?_
      show own_Fin _ _ _ _ _ _ _ (s₁.setTop (mkF m 10 #[.val (.int p0), .val (.int p1), .val (.int p2)] []))
      refine own_go (fun _ k => XS.iconst X0.here hx rfl (hb hby d12_10) k) ?_
      show own_Fin _ _ _ _ _ _ _ (s₁.setTop (mkF m 11 #[.val (.int p0), .val (.int p1), .val (.int p2)] [(.int (1 : Int32))]))
      refine own_go (fun _ k => XS.goto X0.here hx rfl (pc0 := 11) (pc' := 15) rfl (hb hby d12_11) (by decide) (by decide) k) ?_
      show own_Fin _ _ _ _ _ _ _ (s₁.setTop (mkF m 15 #[.val (.int p0), .val (.int p1), .val (.int p2)] [(.int (1 : Int32))]))
      refine own_ret X0 hx hlk Bd.returns rfl (Or.inl ⟨rfl, by simp, _, rfl⟩) (hb hby d12_15) (Nat.le_of_ble_eq_true rfl) (Nat.le_of_ble_eq_true rfl) ?_
      exact ⟨(own_lf_own_f12_3 (p0 := p0) (p1 := p1) (p2 := p2) hc1 hc2), N0, e0⟩
theorem d13_0 : decode method_3_code 0 = .ok (.iload_n 3, 1) := by decide +kernel
theorem d13_1 : decode method_3_code 1 = .ok (.iload_n 2, 1) := by decide +kernel
theorem d13_2 : decode method_3_code 2 = .ok (.if_icmp .ge 12, 3) := by decide +kernel
theorem d13_5 : decode method_3_code 5 = .ok (.aload_n 0, 1) := by decide +kernel
theorem d13_6 : decode method_3_code 6 = .ok (.iload_n 3, 1) := by decide +kernel
theorem d13_7 : decode method_3_code 7 = .ok (.iaload, 1) := by decide +kernel
theorem d13_8 : decode method_3_code 8 = .ok (.aload_n 1, 1) := by decide +kernel
theorem d13_9 : decode method_3_code 9 = .ok (.iload_n 3, 1) := by decide +kernel
theorem d13_10 : decode method_3_code 10 = .ok (.iaload, 1) := by decide +kernel
theorem d13_11 : decode method_3_code 11 = .ok (.if_icmp .ne 7, 3) := by decide +kernel
theorem d13_14 : decode method_3_code 14 = .ok (.iconst 1, 1) := by decide +kernel
theorem d13_15 : decode method_3_code 15 = .ok (.goto 4, 3) := by decide +kernel
theorem d13_18 : decode method_3_code 18 = .ok (.iconst 0, 1) := by decide +kernel
theorem d13_19 : decode method_3_code 19 = .ok (.ireturn, 1) := by decide +kernel
theorem pn_13 : plainName "com/example/reachability/reachability/CandidateListFoundElementsPinLaw" = true := by first | (simp [plainName, overriddenIn]; done) | decide +kernel
theorem ef_13 (m : MethodId) (r0 : Addr) (r1 : Addr) (p2 : Int32) (p3 : Int32) : entryFrame m #[(.ref r0), (.ref r1), (.int p2), (.int p3)] 4 = mkF m 0 #[.val (.ref r0), .val (.ref r1), .val (.int p2), .val (.int p3)] [] := by first | (simp [entryFrame, mkF, argsToLocals, Value.category]; done) | rfl
def rm13_room : Room := { frames := 0, cells := 0, slots := 0, locals := 0 }
def own_f13 (p2 : Int32) (p3 : Int32) (nR : Int32) (gR : Nat → Int32) (nE : Int32) (gE : Nat → Int32) : Int32 := (if p3 < p2 then ((if (gR p3.toNatClampNeg) = (gE p3.toNatClampNeg) then ((1 : Int32)) else ((0 : Int32)))) else ((1 : Int32)))
def Qrm13 (Z : State) (r0 : Addr) (r1 : Addr) (p2 : Int32) (p3 : Int32) (nR : Int32) (gR : Nat → Int32) (nE : Int32) (gE : Nat → Int32) (h0 : Heap) (n0 : Nat) (v : Option Value) (h : Heap) (L : List Loc) : Prop := v = some (.int (own_f13 p2 p3 nR gR nE gE)) ∧ Fr n0 L ∧ h = h0
theorem own_lf_own_f13_1 {p2 : Int32} {p3 : Int32} {nR : Int32} {gR : Nat → Int32} {nE : Int32} {gE : Nat → Int32} (hc1 : p3 < p2) (hc2 : (gR p3.toNatClampNeg) = (gE p3.toNatClampNeg)) : (some (.int (1 : Int32)) : Option Value) = some (.int (own_f13 p2 p3 nR gR nE gE)) := by
  first | (simp only [own_f13, if_pos hc1, if_pos hc2]; done) | (simp only [own_f13, if_pos hc1, if_pos hc2]; rfl) | rfl
theorem own_lf_own_f13_2 {p2 : Int32} {p3 : Int32} {nR : Int32} {gR : Nat → Int32} {nE : Int32} {gE : Nat → Int32} (hc1 : p3 < p2) (hc2 : ¬ ((gR p3.toNatClampNeg) = (gE p3.toNatClampNeg))) : (some (.int (0 : Int32)) : Option Value) = some (.int (own_f13 p2 p3 nR gR nE gE)) := by
  first | (simp only [own_f13, if_pos hc1, if_neg hc2]; done) | (simp only [own_f13, if_pos hc1, if_neg hc2]; rfl) | rfl
theorem own_lf_own_f13_3 {p2 : Int32} {p3 : Int32} {nR : Int32} {gR : Nat → Int32} {nE : Int32} {gE : Nat → Int32} (hc1 : ¬ (p3 < p2)) : (some (.int (1 : Int32)) : Option Value) = some (.int (own_f13 p2 p3 nR gR nE gE)) := by
  first | (simp only [own_f13, if_neg hc1]; done) | (simp only [own_f13, if_neg hc1]; rfl) | rfl
set_option maxRecDepth 65536 in
set_option maxHeartbeats 40000000 in
theorem rm13 (l : Launch) (Z : State) (a0 : Array Value) (hw : ∀ d ∈ tables_1, d.before a0 Z = true) (ws : List Jvm.Cond) (r0 : Addr) (r1 : Addr) (p2 : Int32) (p3 : Int32) (nR : Int32) (gR : Nat → Int32) (nE : Int32) (gE : Nat → Int32) (h0 : Heap) (n0 : Nat) (Z0 : n0 ≤ h0.size) (A_r0_0 : own_Arf Z h0 r0 .int nR (fun i => .int (gR i))) (A_r1_0 : own_Arf Z h0 r1 .int nE (fun i => .int (gE i))) (hp : p2 = nR ∧ nE = (6 : Int32) ∧ ¬ p3 < (0 : Int32) ∧ p3 < (6 : Int32)) :
    MetFree l (⟨"com/example/reachability/reachability/CandidateListFoundElementsPinLaw", "at", "([I[III)Z"⟩ : MethodName) (head1 (Jvm.Cond.code (⟨"com/example/reachability/reachability/CandidateListFoundElementsPinLaw", "at", "([I[III)Z"⟩ : MethodName) method_3_code 4 (some .boolean) :: ws) rm13_room) (fun a U => a = #[(.ref r0), (.ref r1), (.int p2), (.int p3)] ∧ Z.Warmed39 U.vm ∧ U.heap = h0) (fun _ _ _ _ _ => True) (fun _ U o U' => ∃ v L, o = .returned v ∧ Qrm13 Z r0 r1 p2 p3 nR gR nE gE h0 n0 v U'.heap L ∧ FrameEnd U o U' L rm13_room.cells rm13_room.slots) := by
  refine MetFree.of_bodySF (plainFor_of_name pn_13) hisR ?_
  intro p e s m args below meth c s₁ Bd hml0 hP hK
  obtain ⟨rfl, hZ, hh⟩ := hP
  have hx := Bd.exec
  have hby := Bd.bytes
  have hml : c.maxLocals = 4 := hml0
  have hown : s.vm.findClass "com/example/reachability/reachability/CandidateListFoundElementsPinLaw" = some m.cls := findClass_of_methodNamed Bd.named
  have hnm := (name_of_methodNamed Bd.named Bd.method).1
  have hlk : meth.locks = false := BodyLoose.notSynchronized Bd
  have X0 : Stand p l e rm13_room s m #[(.ref r0), (.ref r1), (.int p2), (.int p3)] below meth c s₁ [] 0 0 := Stand.of_body Bd
  have e0 : s₁.heap = h0 := by rw [← hh, Bd.state]; rfl
  have N0 := Fr.nil n0
  show own_Fin p.tables e below s (Qrm13 Z r0 r1 p2 p3 nR gR nE gE h0 n0) rm13_room.cells rm13_room.slots (s₁.setTop (entryFrame m #[(.ref r0), (.ref r1), (.int p2), (.int p3)] 4))
  rw [ef_13]
  show own_Fin _ _ _ _ _ _ _ (s₁.setTop (mkF m 0 #[.val (.ref r0), .val (.ref r1), .val (.int p2), .val (.int p3)] []))
  refine own_go (fun _ k => XS.iloadN X0.here hx rfl (hb hby d13_0) rfl k) ?_
  show own_Fin _ _ _ _ _ _ _ (s₁.setTop (mkF m 1 #[.val (.ref r0), .val (.ref r1), .val (.int p2), .val (.int p3)] [(.int p3)]))
  refine own_go (fun _ k => XS.iloadN X0.here hx rfl (hb hby d13_1) rfl k) ?_
  show own_Fin _ _ _ _ _ _ _ (s₁.setTop (mkF m 2 #[.val (.ref r0), .val (.ref r1), .val (.int p2), .val (.int p3)] [(.int p2), (.int p3)]))
  by_cases hc1 : p3 < p2
  · refine own_go (fun _ k => XS.icmpNo X0.here hx rfl (hb hby d13_2) rfl (tlt hc1).2.1 k) ?_
    show own_Fin _ _ _ _ _ _ _ (s₁.setTop (mkF m 5 #[.val (.ref r0), .val (.ref r1), .val (.int p2), .val (.int p3)] []))
    refine own_go (fun _ k => XS.aloadN X0.here hx rfl (hb hby d13_5) rfl rfl k) ?_
    show own_Fin _ _ _ _ _ _ _ (s₁.setTop (mkF m 6 #[.val (.ref r0), .val (.ref r1), .val (.int p2), .val (.int p3)] [(.ref r0)]))
    refine own_go (fun _ k => XS.iloadN X0.here hx rfl (hb hby d13_6) rfl k) ?_
    show own_Fin _ _ _ _ _ _ _ (s₁.setTop (mkF m 7 #[.val (.ref r0), .val (.ref r1), .val (.int p2), .val (.int p3)] [(.int p3), (.ref r0)]))
    refine own_go (fun tg k => own_iaload X0 hx hZ e0 A_r0_0 (j := p3) ⟨hp.2.2.1, hp.1 ▸ hc1⟩ (x := (gR p3.toNatClampNeg)) rfl (g := (mkF m 7 #[.val (.ref r0), .val (.ref r1), .val (.int p2), .val (.int p3)] [(.int p3), (.ref r0)])) rfl rfl (hb hby d13_7) tg k) ?_
    show own_Fin _ _ _ _ _ _ _ (s₁.setTop (mkF m 8 #[.val (.ref r0), .val (.ref r1), .val (.int p2), .val (.int p3)] [(.int (gR p3.toNatClampNeg))]))
    refine own_go (fun _ k => XS.aloadN X0.here hx rfl (hb hby d13_8) rfl rfl k) ?_
    show own_Fin _ _ _ _ _ _ _ (s₁.setTop (mkF m 9 #[.val (.ref r0), .val (.ref r1), .val (.int p2), .val (.int p3)] [(.ref r1), (.int (gR p3.toNatClampNeg))]))
    refine own_go (fun _ k => XS.iloadN X0.here hx rfl (hb hby d13_9) rfl k) ?_
    show own_Fin _ _ _ _ _ _ _ (s₁.setTop (mkF m 10 #[.val (.ref r0), .val (.ref r1), .val (.int p2), .val (.int p3)] [(.int p3), (.ref r1), (.int (gR p3.toNatClampNeg))]))
    refine own_go (fun tg k => own_iaload X0 hx hZ e0 A_r1_0 (j := p3) ⟨hp.2.2.1, hp.2.1.symm ▸ hp.2.2.2⟩ (x := (gE p3.toNatClampNeg)) rfl (g := (mkF m 10 #[.val (.ref r0), .val (.ref r1), .val (.int p2), .val (.int p3)] [(.int p3), (.ref r1), (.int (gR p3.toNatClampNeg))])) rfl rfl (hb hby d13_10) tg k) ?_
    show own_Fin _ _ _ _ _ _ _ (s₁.setTop (mkF m 11 #[.val (.ref r0), .val (.ref r1), .val (.int p2), .val (.int p3)] [(.int (gE p3.toNatClampNeg)), (.int (gR p3.toNatClampNeg))]))
    by_cases hc2 : (gR p3.toNatClampNeg) = (gE p3.toNatClampNeg)
    · refine own_go (fun _ k => XS.icmpNo X0.here hx rfl (hb hby d13_11) rfl (teq hc2).2 k) ?_
      show own_Fin _ _ _ _ _ _ _ (s₁.setTop (mkF m 14 #[.val (.ref r0), .val (.ref r1), .val (.int p2), .val (.int p3)] []))
      refine own_go (fun _ k => XS.iconst X0.here hx rfl (hb hby d13_14) k) ?_
      show own_Fin _ _ _ _ _ _ _ (s₁.setTop (mkF m 15 #[.val (.ref r0), .val (.ref r1), .val (.int p2), .val (.int p3)] [(.int (1 : Int32))]))
      refine own_go (fun _ k => XS.goto X0.here hx rfl (pc0 := 15) (pc' := 19) rfl (hb hby d13_15) (by decide) (by decide) k) ?_
      show own_Fin _ _ _ _ _ _ _ (s₁.setTop (mkF m 19 #[.val (.ref r0), .val (.ref r1), .val (.int p2), .val (.int p3)] [(.int (1 : Int32))]))
      refine own_ret X0 hx hlk Bd.returns rfl (Or.inl ⟨rfl, by simp, _, rfl⟩) (hb hby d13_19) (Nat.le_of_ble_eq_true rfl) (Nat.le_of_ble_eq_true rfl) ?_
      refine ⟨(own_lf_own_f13_1 (p2 := p2) (p3 := p3) (nR := nR) (gR := gR) (nE := nE) (gE := gE) hc1 hc2), N0, e0⟩
    · refine own_go (fun _ k => XS.icmpYes X0.here hx rfl (pc0 := 11) (pc' := 18) rfl (hb hby d13_11) rfl (feq hc2).2 (by decide) (by decide) k) ?_
      show own_Fin _ _ _ _ _ _ _ (s₁.setTop (mkF m 18 #[.val (.ref r0), .val (.ref r1), .val (.int p2), .val (.int p3)] []))
      refine own_go (fun _ k => XS.iconst X0.here hx rfl (hb hby d13_18) k) ?_
      show own_Fin _ _ _ _ _ _ _ (s₁.setTop (mkF m 19 #[.val (.ref r0), .val (.ref r1), .val (.int p2), .val (.int p3)] [(.int (0 : Int32))]))
      refine own_ret X0 hx hlk Bd.returns rfl (Or.inl ⟨rfl, by simp, _, rfl⟩) (hb hby d13_19) (Nat.le_of_ble_eq_true rfl) (Nat.le_of_ble_eq_true rfl) ?_
      refine ⟨(own_lf_own_f13_2 (p2 := p2) (p3 := p3) (nR := nR) (gR := gR) (nE := nE) (gE := gE) hc1 hc2), N0, e0⟩
  · refine own_go (fun _ k => XS.icmpYes X0.here hx rfl (pc0 := 2) (pc' := 14) rfl (hb hby d13_2) rfl (flt hc1).2.1 (by decide) (by decide) k) ?_
    show own_Fin _ _ _ _ _ _ _ (s₁.setTop (mkF m 14 #[.val (.ref r0), .val (.ref r1), .val (.int p2), .val (.int p3)] []))
    refine own_go (fun _ k => XS.iconst X0.here hx rfl (hb hby d13_14) k) ?_
    show own_Fin _ _ _ _ _ _ _ (s₁.setTop (mkF m 15 #[.val (.ref r0), .val (.ref r1), .val (.int p2), .val (.int p3)] [(.int (1 : Int32))]))
    refine own_go (fun _ k => XS.goto X0.here hx rfl (pc0 := 15) (pc' := 19) rfl (hb hby d13_15) (by decide) (by decide) k) ?_
    show own_Fin _ _ _ _ _ _ _ (s₁.setTop (mkF m 19 #[.val (.ref r0), .val (.ref r1), .val (.int p2), .val (.int p3)] [(.int (1 : Int32))]))
    refine own_ret X0 hx hlk Bd.returns rfl (Or.inl ⟨rfl, by simp, _, rfl⟩) (hb hby d13_19) (Nat.le_of_ble_eq_true rfl) (Nat.le_of_ble_eq_true rfl) ?_
    refine ⟨(own_lf_own_f13_3 (p2 := p2) (p3 := p3) (nR := nR) (gR := gR) (nE := nE) (gE := gE) hc1), N0, e0⟩
theorem own_ltN (f : Nat → Int32) (v : Int32) (N : Nat) (hs : ∀ i j, i ≤ j → j < N → (f i).toInt ≤ (f j).toInt) : ∀ (n : Nat) (lo hi : Int32), (hi.toInt - lo.toInt).toNat ≤ n → 0 ≤ lo.toInt → lo.toInt ≤ hi.toInt → hi.toInt ≤ N →
    ∃ r : Nat, (own_falE f v lo hi).toInt = r ∧ lo.toInt ≤ r ∧ (r : Int) ≤ hi.toInt ∧ (∀ i : Nat, lo.toInt ≤ i → i < r → (f i).toInt < v.toInt) ∧ (∀ i : Nat, r ≤ i → (i : Int) < hi.toInt → v.toInt ≤ (f i).toInt) := by
  intro n
  induction n with
  | zero =>
    intro lo hi h1 h2 h3 h4
    have e : ¬ lo < hi := by rw [Int32.lt_iff_toInt_lt]; omega
    rw [own_fal0 e]
    exact ⟨lo.toInt.toNat, by omega, by omega, by omega, fun i a b => by omega, fun i a b => by omega⟩
  | succ n ih =>
    intro lo hi h1 h2 h3 h4
    by_cases h : lo < hi
    · have h0 : ¬ lo < (0 : Int32) := by rw [Int32.lt_iff_toInt_lt, show (0 : Int32).toInt = 0 from by decide]; omega
      obtain ⟨m1, m2⟩ := own_midv h0 h
      have h' := h
      rw [Int32.lt_iff_toInt_lt] at h'
      rw [own_fal1 h0 h]
      have mi : (own_iushr (lo + hi) (1 : Int32)).toNatClampNeg = ((lo.toInt + hi.toInt) / 2).toNat := by simp only [Int32.toNatClampNeg, m1]
      rw [mi]
      by_cases c : f ((lo.toInt + hi.toInt) / 2).toNat < v
      · rw [if_pos c]
        obtain ⟨r, e, a1, a2, a3, a4⟩ := ih ((own_iushr (lo + hi) (1 : Int32)) + 1) hi (by omega) (by omega) (by omega) h4
        refine ⟨r, e, by omega, a2, fun i b1 b2 => ?_, a4⟩
        by_cases q : (lo.toInt + hi.toInt) / 2 + 1 ≤ i
        · exact a3 i (by omega) b2
        · rw [Int32.lt_iff_toInt_lt] at c
          have := hs i ((lo.toInt + hi.toInt) / 2).toNat (by omega) (by omega)
          omega
      · rw [if_neg c]
        obtain ⟨r, e, a1, a2, a3, a4⟩ := ih lo (own_iushr (lo + hi) (1 : Int32)) (by omega) (by omega) (by omega) (by omega)
        refine ⟨r, e, a1, by omega, a3, fun i b1 b2 => ?_⟩
        by_cases q : (i : Int) < (lo.toInt + hi.toInt) / 2
        · exact a4 i b1 (by omega)
        · rw [Int32.lt_iff_toInt_lt] at c
          have := hs ((lo.toInt + hi.toInt) / 2).toNat i (by omega) (by omega)
          omega
    · have e : ¬ lo < hi := h
      rw [Int32.lt_iff_toInt_lt] at h
      rw [own_fal0 e]
      exact ⟨lo.toInt.toNat, by omega, by omega, by omega, fun i a b => by omega, fun i a b => by omega⟩
/-- the first place whose number is at least v -/
def own_fi (g : Nat → Int32) (v : Int32) : Nat := if v.toInt ≤ (g 0).toInt then 0 else if v.toInt ≤ (g 1).toInt then 1 else if v.toInt ≤ (g 2).toInt then 2 else 3
theorem own_sub1 (x : Int32) (n : Nat) (h : x.toInt = n) (h1 : 1 ≤ n) : (x - (1 : Int32)).toInt = ((n - 1 : Nat) : Int) := by
  have a := c_isub x 1
  have r := rng32 (x - 1)
  have r2 := rng32 x
  rw [show (1 : Int32).toInt = 1 from by decide] at a
  omega
theorem own_arith (D g0 g1 g2 v j r lo hi : Int) (hD : D = 1 ∨ D = 2 ∨ D = 4 ∨ D = 8 ∨ D = 16) (hg : g0 ≤ g1 ∧ g1 ≤ g2) (hj : v / D = j)
    (hlo : lo = (if g0 / D < j then (1 : Int) else 0) + (if g1 / D < j then 1 else 0) + (if g2 / D < j then 1 else 0)) (hhi : hi = (if g0 / D < j + 1 then (1 : Int) else 0) + (if g1 / D < j + 1 then 1 else 0) + (if g2 / D < j + 1 then 1 else 0))
    (p1 : lo ≤ r) (p2 : r ≤ hi) (x0 : lo ≤ 0 → 0 < r → g0 < v) (x1 : lo ≤ 1 → 1 < r → g1 < v) (x2 : lo ≤ 2 → 2 < r → g2 < v) (y0 : r ≤ 0 → 0 < hi → v ≤ g0) (y1 : r ≤ 1 → 1 < hi → v ≤ g1) (y2 : r ≤ 2 → 2 < hi → v ≤ g2) :
    r = if v ≤ g0 then 0 else if v ≤ g1 then 1 else if v ≤ g2 then 2 else 3 := by
  have m1 : g0 / D ≤ g1 / D := by rcases hD with d | d | d | d | d <;> subst d <;> omega
  have m2 : g1 / D ≤ g2 / D := by rcases hD with d | d | d | d | d <;> subst d <;> omega
  have u0 : g0 / D < j → g0 < v := by rcases hD with d | d | d | d | d <;> subst d <;> omega
  have u1 : g1 / D < j → g1 < v := by rcases hD with d | d | d | d | d <;> subst d <;> omega
  have u2 : g2 / D < j → g2 < v := by rcases hD with d | d | d | d | d <;> subst d <;> omega
  have w0 : ¬ g0 / D < j + 1 → v < g0 := by rcases hD with d | d | d | d | d <;> subst d <;> omega
  have w1 : ¬ g1 / D < j + 1 → v < g1 := by rcases hD with d | d | d | d | d <;> subst d <;> omega
  have w2 : ¬ g2 / D < j + 1 → v < g2 := by rcases hD with d | d | d | d | d <;> subst d <;> omega
  generalize g0 / D = a at *
  generalize g1 / D = b at *
  generalize g2 / D = c at *
  clear hj hD
  by_cases c0 : a < j <;> by_cases c1 : b < j <;> by_cases c2 : c < j <;> by_cases d0 : a < j + 1 <;> by_cases d1 : b < j + 1 <;> by_cases d2 : c < j + 1 <;> first | (exfalso; omega) | skip
  all_goals simp only [c0, c1, c2, d0, d1, d2, if_true, if_false] at hlo hhi
  all_goals subst hlo hhi
  all_goals (repeat' split) <;> omega
theorem own_f8k {g gB : Nat → Int32} (h : own_srt g) (k : Int32) (n : Nat) (D : Int) (hk : k.toBitVec.toNat % 32 = n) (hD : ((2 ^ n : Nat) : Int) = D) (hDs : D = 1 ∨ D = 2 ∨ D = 4 ∨ D = 8 ∨ D = 16) (hc : (g 2).toInt / D ≤ 2) (hB : own_spB g k gB) (v : Int32) (hv : 0 ≤ v.toInt ∧ v.toInt < 64) :
    own_okF v k ((own_iushr (g 2) k) + (2 : Int32)) gB ∧ (own_f8 v k ((own_iushr (g 2) k) + (2 : Int32)) gB g).toInt = own_fi g v := by
  obtain ⟨a1, a2, a3, a4⟩ := h
  have s0 := own_shr (g 0) k n hk a1
  have s1 := own_shr (g 1) k n hk (by omega)
  have s2 := own_shr (g 2) k n hk (by omega)
  have sv := own_shr v k n hk hv.1
  rw [hD] at s0 s1 s2 sv
  have c0 : 0 ≤ (g 2).toInt / D := Int.ediv_nonneg (by omega) (by omega)
  have j0 : 0 ≤ v.toInt / D := Int.ediv_nonneg (by omega) (by omega)
  obtain ⟨cN, hcN⟩ : ∃ c : Nat, (g 2).toInt / D = c := ⟨((g 2).toInt / D).toNat, by omega⟩
  obtain ⟨jN, hjN⟩ : ∃ c : Nat, v.toInt / D = c := ⟨(v.toInt / D).toNat, by omega⟩
  have jle : jN ≤ 64 := by rcases hDs with q | q | q | q | q <;> subst q <;> omega
  have L : ((own_iushr (g 2) k) + (2 : Int32)).toInt = ((cN + 2 : Nat) : Int) := own_add1 _ cN 2 (by omega) (by omega) (by decide)
  have L1 : ((own_iushr (g 2) k) + (2 : Int32) - (1 : Int32)).toInt = ((cN + 1 : Nat) : Int) := own_sub1 _ (cN + 2) L (by omega)
  have J1 : (own_iushr v k).toNatClampNeg = jN := own_cl (by omega)
  have K1 : ((own_iushr v k) + (1 : Int32)).toInt = ((jN + 1 : Nat) : Int) := own_add1 _ jN 1 (by omega) (by omega) (by decide)
  have J2 : ((own_iushr v k) + (1 : Int32)).toNatClampNeg = jN + 1 := own_cl K1
  have CC : (own_iushr v k) < ((own_iushr (g 2) k) + (2 : Int32) - (1 : Int32)) ↔ jN < cN + 1 := by rw [Int32.lt_iff_toInt_lt, L1]; omega
  have b1 := hB jN
  have b2 := hB (jN + 1)
  rw [L, s0, s1, s2] at b1 b2
  have k3 : (3 : Int32).toInt = 3 := by decide
  have k0 : (0 : Int32).toInt = 0 := by decide
  refine ⟨?_, ?_⟩
  · intro q
    have q' := CC.mp q
    have b1' := b1 (by omega)
    have b2' := b2 (by omega)
    rw [J1, J2]
    simp only [Int32.lt_iff_toInt_lt, Int32.le_iff_toInt_le, k0, k3, L, K1]
    refine ⟨by omega, by omega, ?_, ?_⟩
    · rw [b1']; repeat' split
      all_goals omega
    · rw [b2']; repeat' split
      all_goals omega
  · simp only [own_f8]
    by_cases q : (own_iushr v k) < ((own_iushr (g 2) k) + (2 : Int32) - (1 : Int32))
    · rw [if_pos q, J1, J2]
      have q' := CC.mp q
      have b1' := b1 (by omega)
      have b2' := b2 (by omega)
      have hs : ∀ i j, i ≤ j → j < 3 → (g i).toInt ≤ (g j).toInt := by
        intro i j hij hj
        rcases (show j = 0 ∨ j = 1 ∨ j = 2 by omega) with e | e | e <;> subst e
        · rw [show i = 0 from by omega]; exact Int.le_refl _
        · rcases (show i = 0 ∨ i = 1 by omega) with e | e <;> subst e <;> omega
        · rcases (show i = 0 ∨ i = 1 ∨ i = 2 by omega) with e | e | e <;> subst e <;> omega
      have B1 : 0 ≤ (gB jN).toInt ∧ (gB jN).toInt ≤ (gB (jN + 1)).toInt ∧ (gB (jN + 1)).toInt ≤ 3 := by
        rw [b1', b2']
        refine ⟨?_, ?_, ?_⟩ <;> (repeat' split) <;> omega
      obtain ⟨r, e, p1, p2, p3, p4⟩ := own_ltN g v 3 hs _ (gB jN) (gB (jN + 1)) (Nat.le_refl _) B1.1 B1.2.1 (by omega)
      rw [e]
      have x0 := p3 0; have x1 := p3 1; have x2 := p3 2
      have y0 := p4 0; have y1 := p4 1; have y2 := p4 2
      have key := own_arith D (g 0).toInt (g 1).toInt (g 2).toInt v.toInt jN r (gB jN).toInt (gB (jN + 1)).toInt hDs ⟨a2, a3⟩ hjN (by rw [b1']) (by rw [b2']; rfl) p1 p2 (fun a b => x0 a (by omega)) (fun a b => x1 a (by omega)) (fun a b => x2 a (by omega)) (fun a b => y0 (by omega) b) (fun a b => y1 (by omega) b) (fun a b => y2 (by omega) b)
      rw [key]
      unfold own_fi
      repeat' split
      all_goals rfl
    · rw [if_neg q]
      have q' : ¬ jN < cN + 1 := fun z => q (CC.mpr z)
      unfold own_fi
      rcases hDs with d | d | d | d | d <;> subst d <;> (repeat' split) <;> first | omega | rfl

theorem own_bshk {g : Nat → Int32} (h : own_srt g) : ∃ (n : Nat) (D : Int), (own_f3 g).toBitVec.toNat % 32 = n ∧ ((2 ^ n : Nat) : Int) = D ∧ (D = 1 ∨ D = 2 ∨ D = 4 ∨ D = 8 ∨ D = 16) ∧ (g 2).toInt / D ≤ 2 := by
  have h2 := own_srt1 h
  have M : (3 : Int32).toInt = 3 := by decide
  have s0 := own_shr (g 2) 0 0 (by decide) h2.1
  have s1 := own_shr (g 2) 1 1 (by decide) h2.1
  have s2 := own_shr (g 2) 2 2 (by decide) h2.1
  have s3 := own_shr (g 2) 3 3 (by decide) h2.1
  simp only [own_f3, own_mx, Int32.lt_iff_toInt_lt, s0, s1, s2, s3, M]
  repeat' split
  · exact ⟨0, 1, by decide, by decide, by decide, by rename_i q; rw [show ((2 ^ 0 : Nat) : Int) = 1 from by decide] at q; omega⟩
  · exact ⟨1, 2, by decide, by decide, by decide, by rename_i q; rw [show ((2 ^ 1 : Nat) : Int) = 2 from by decide] at q; omega⟩
  · exact ⟨2, 4, by decide, by decide, by decide, by rename_i q; rw [show ((2 ^ 2 : Nat) : Int) = 4 from by decide] at q; omega⟩
  · exact ⟨3, 8, by decide, by decide, by decide, by rename_i q; rw [show ((2 ^ 3 : Nat) : Int) = 8 from by decide] at q; omega⟩
  · exact ⟨4, 16, by decide, by decide, by decide, by omega⟩
theorem own_f8v {g gB : Nat → Int32} (h : own_srt g) (hB : own_spB g (own_f3 g) gB) (v : Int32) (hv : 0 ≤ v.toInt ∧ v.toInt < 64) :
    own_okS v (own_f3 g) ((own_iushr (g 2) (own_f3 g)) + (2 : Int32)) gB g ∧ (own_f8 v (own_f3 g) ((own_iushr (g 2) (own_f3 g)) + (2 : Int32)) gB g).toInt = own_fi g v := by
  obtain ⟨n, D, hk, hD, hDs, hc⟩ := own_bshk h
  obtain ⟨q1, q2⟩ := own_f8k h (own_f3 g) n D hk hD hDs hc hB v hv
  refine ⟨⟨q1, own_fi g v, q2, ?_⟩, q2⟩
  unfold own_fi
  repeat' split
  all_goals omega

theorem own_m15 (x : Int32) : 0 ≤ (x &&& (15 : Int32)).toInt ∧ (x &&& (15 : Int32)).toInt < 64 := by
  have h := c_and x 15 (by decide)
  rw [show (15 : Int32).toInt = 15 from by decide] at h
  omega
theorem own_m2n (p0 : Int32) : 0 ≤ (p0 &&& (7 : Int32)).toInt ∧ (p0 &&& (7 : Int32)).toInt ≤ ((p0 &&& (7 : Int32)) + ((own_iushr p0 (3 : Int32)) &&& (3 : Int32))).toInt ∧ ((p0 &&& (7 : Int32)) + ((own_iushr p0 (3 : Int32)) &&& (3 : Int32))).toInt ≤ (((p0 &&& (7 : Int32)) + ((own_iushr p0 (3 : Int32)) &&& (3 : Int32))) + ((own_iushr p0 (5 : Int32)) &&& (3 : Int32))).toInt ∧ (((p0 &&& (7 : Int32)) + ((own_iushr p0 (3 : Int32)) &&& (3 : Int32))) + ((own_iushr p0 (5 : Int32)) &&& (3 : Int32))).toInt < 48 := by
  have h0 := c_and p0 7 (by decide)
  have h1 := c_and (own_iushr p0 3) 3 (by decide)
  have h2 := c_and (own_iushr p0 5) 3 (by decide)
  rw [show (7 : Int32).toInt = 7 from by decide] at h0
  rw [show (3 : Int32).toInt = 3 from by decide] at h1 h2
  generalize p0 &&& 7 = a at *
  generalize own_iushr p0 3 &&& 3 = b at *
  generalize own_iushr p0 5 &&& 3 = c at *
  have q := c_iadd a b
  have r := rng32 (a + b)
  have q2 := c_iadd (a + b) c
  have r2 := rng32 (a + b + c)
  omega
def own_gN (p0 : Int32) : Nat → Int32 := (own_set (own_set (own_set (fun _ => (0 : Int32)) (0 : Int32) (p0 &&& (7 : Int32))) (1 : Int32) ((p0 &&& (7 : Int32)) + ((own_iushr p0 (3 : Int32)) &&& (3 : Int32)))) (2 : Int32) (((p0 &&& (7 : Int32)) + ((own_iushr p0 (3 : Int32)) &&& (3 : Int32))) + ((own_iushr p0 (5 : Int32)) &&& (3 : Int32))))
theorem own_m2srt (p0 : Int32) : own_srt (own_set (own_set (own_set (fun _ => (0 : Int32)) (0 : Int32) (p0 &&& (7 : Int32))) (1 : Int32) ((p0 &&& (7 : Int32)) + ((own_iushr p0 (3 : Int32)) &&& (3 : Int32)))) (2 : Int32) (((p0 &&& (7 : Int32)) + ((own_iushr p0 (3 : Int32)) &&& (3 : Int32))) + ((own_iushr p0 (5 : Int32)) &&& (3 : Int32)))) := own_m2n p0
theorem own_inv0 (X : Nat → Int32) : own_inv (fun _ => (0 : Int32)) X ((1 : Int32) + (1 : Int32)) 0 := fun i _ _ h => absurd h (show ¬ (0 : Int32) = (1 : Int32) + (1 : Int32) from by decide)
theorem own_ok0 (D : Nat → Int32) : own_ok ((1 : Int32) + (1 : Int32)) (0 : Int32) (fun _ => (0 : Int32)) D := ⟨by decide, fun i h => by rw [own_k0] at h; omega⟩
theorem own_fok {p1 p2 sh nB : Int32} {gB gN : Nat → Int32} {fo se fc : Int32} {gF gD : Nat → Int32} (hs : own_okS p1 sh nB gB gN) (h : own_ok se fc gF gD) : own_ok se (own_find p1 p2 sh nB gB gN fo se fc gF gD).1 (own_find p1 p2 sh nB gB gN fo se fc gF gD).2.1 (own_find p1 p2 sh nB gB gN fo se fc gF gD).2.2 := own_Rok _ _ _ _ _ _ _ _ _ (own_enn (own_S03 hs)) h
theorem own_kz0 {q : Prop} [Decidable q] {z : Int32} (h : (if q then (0 : Int32) else (1 : Int32)) = z) : 0 ≤ z.toInt ∧ z.toInt ≤ (1 : Nat) := by
  subst h; split <;> decide
theorem own_kz {q : Prop} [Decidable q] {a z : Int32} {n : Nat} (h : (if q then a else a + (1 : Int32)) = z) (b : 0 ≤ a.toInt ∧ a.toInt ≤ n) (hn : n < 100) : 0 ≤ z.toInt ∧ z.toInt ≤ (n + 1 : Nat) := by
  subst h
  have r := rng32 (a + 1)
  have e := c_iadd a 1
  rw [own_k1] at e
  split <;> omega
theorem own_kb6 {z : Int32} {n : Nat} (b : 0 ≤ z.toInt ∧ z.toInt ≤ n) (h : n < 6) : ¬ z < 0 ∧ z < (6 : Int32) := by
  simp only [Int32.lt_iff_toInt_lt, own_k0, show (6 : Int32).toInt = 6 from by decide]
  omega

theorem own_pd570 : parseMethodDescriptor "([I[I)V" = some ⟨[(.array .int), (.array .int)], none⟩ := by decide +kernel
theorem own_pd571 : parseMethodDescriptor "(Z)V" = some ⟨[.boolean], none⟩ := by decide +kernel
theorem own_pd572 : parseMethodDescriptor "()[I" = some ⟨[], some (.array .int)⟩ := by decide +kernel
theorem own_pd573 : parseMethodDescriptor "(III)Z" = some ⟨[.int, .int, .int], some .boolean⟩ := by decide +kernel
theorem own_pd574 : parseMethodDescriptor "([I[III)Z" = some ⟨[(.array .int), (.array .int), .int, .int], some .boolean⟩ := by decide +kernel
theorem pn_0 : plainName "com/example/reachability/reachability/CandidateListFoundElementsPinLaw" = true := by first | (simp [plainName, overriddenIn]; done) | decide +kernel
theorem ef_0 (m : MethodId) (p0 : Int32) (p1 : Int32) (p2 : Int32) (p3 : Int32) (p4 : Int32) : entryFrame m #[(.int p0), (.int p1), (.int p2), (.int p3), (.int p4)] maxLocals = mkF m 0 #[.val (.int p0), .val (.int p1), .val (.int p2), .val (.int p3), .val (.int p4), .unset, .unset, .unset, .unset, .unset, .unset, .unset, .unset, .unset, .unset, .unset, .unset, .unset, .unset, .unset, .unset, .unset, .unset, .unset, .unset] [] := by first | (simp [entryFrame, mkF, argsToLocals, Value.category, maxLocals]; done) | rfl
def own_f0 (p0 : Int32) (p1 : Int32) (p2 : Int32) (p3 : Int32) (p4 : Int32) (gB23 : Nat → Int32) (gR32 : Nat → Int32) : Int32 := let z1 := ((p0 &&& (7 : Int32)) + ((own_iushr p0 (3 : Int32)) &&& (3 : Int32))); let z2 := (z1 + ((own_iushr p0 (5 : Int32)) &&& (3 : Int32))); let z6 := (if ((own_iushr p0 (7 : Int32)) &&& (1 : Int32)) = (0 : Int32) then (0 : Int32) else (1 : Int32)); let z10 := (if ((own_iushr p0 (8 : Int32)) &&& (1 : Int32)) = (0 : Int32) then (0 : Int32) else (1 : Int32)); let z11 := ((own_iushr p1 (4 : Int32)) &&& (15 : Int32)); let z12 := ((own_iushr p1 (8 : Int32)) &&& (15 : Int32)); let z13 := ((own_iushr p1 (12 : Int32)) &&& (15 : Int32)); let f16 := (own_set (fun _ => (0 : Int32)) (0 : Int32) (p0 &&& (7 : Int32))); let f17 := (own_set f16 (1 : Int32) z1); let f18 := (own_set f17 (2 : Int32) z2); let f20 := (own_set (fun _ => (0 : Int32)) (0 : Int32) p2); let f21 := (own_set f20 (1 : Int32) p3); let f22 := (own_set f21 (2 : Int32) p4); let f30 := (if z10 = (0 : Int32) then (own_find (p1 &&& (15 : Int32)) z11 (own_f3 f18) ((own_iushr (f18 2) (own_f3 f18)) + (2 : Int32)) gB23 f18 (z6 &&& 1) ((1 : Int32) + (1 : Int32)) (0 : Int32) (fun _ => (0 : Int32)) (fun _ => (0 : Int32))).1 else (own_find z12 z13 (own_f3 f18) ((own_iushr (f18 2) (own_f3 f18)) + (2 : Int32)) gB23 f18 (z6 &&& 1) ((1 : Int32) + (1 : Int32)) (own_find (p1 &&& (15 : Int32)) z11 (own_f3 f18) ((own_iushr (f18 2) (own_f3 f18)) + (2 : Int32)) gB23 f18 (z6 &&& 1) ((1 : Int32) + (1 : Int32)) (0 : Int32) (fun _ => (0 : Int32)) (fun _ => (0 : Int32))).1 (own_find (p1 &&& (15 : Int32)) z11 (own_f3 f18) ((own_iushr (f18 2) (own_f3 f18)) + (2 : Int32)) gB23 f18 (z6 &&& 1) ((1 : Int32) + (1 : Int32)) (0 : Int32) (fun _ => (0 : Int32)) (fun _ => (0 : Int32))).2.1 (own_find (p1 &&& (15 : Int32)) z11 (own_f3 f18) ((own_iushr (f18 2) (own_f3 f18)) + (2 : Int32)) gB23 f18 (z6 &&& 1) ((1 : Int32) + (1 : Int32)) (0 : Int32) (fun _ => (0 : Int32)) (fun _ => (0 : Int32))).2.2).1); let f31 := (if z10 = (0 : Int32) then (own_find (p1 &&& (15 : Int32)) z11 (own_f3 f18) ((own_iushr (f18 2) (own_f3 f18)) + (2 : Int32)) gB23 f18 (z6 &&& 1) ((1 : Int32) + (1 : Int32)) (0 : Int32) (fun _ => (0 : Int32)) (fun _ => (0 : Int32))).2.2 else (own_find z12 z13 (own_f3 f18) ((own_iushr (f18 2) (own_f3 f18)) + (2 : Int32)) gB23 f18 (z6 &&& 1) ((1 : Int32) + (1 : Int32)) (own_find (p1 &&& (15 : Int32)) z11 (own_f3 f18) ((own_iushr (f18 2) (own_f3 f18)) + (2 : Int32)) gB23 f18 (z6 &&& 1) ((1 : Int32) + (1 : Int32)) (0 : Int32) (fun _ => (0 : Int32)) (fun _ => (0 : Int32))).1 (own_find (p1 &&& (15 : Int32)) z11 (own_f3 f18) ((own_iushr (f18 2) (own_f3 f18)) + (2 : Int32)) gB23 f18 (z6 &&& 1) ((1 : Int32) + (1 : Int32)) (0 : Int32) (fun _ => (0 : Int32)) (fun _ => (0 : Int32))).2.1 (own_find (p1 &&& (15 : Int32)) z11 (own_f3 f18) ((own_iushr (f18 2) (own_f3 f18)) + (2 : Int32)) gB23 f18 (z6 &&& 1) ((1 : Int32) + (1 : Int32)) (0 : Int32) (fun _ => (0 : Int32)) (fun _ => (0 : Int32))).2.2).2.2); let z34 := (own_f12 (p0 &&& (7 : Int32)) (p1 &&& (15 : Int32)) z11); let z41 := (if (own_f12 z1 (p1 &&& (15 : Int32)) z11) = (0 : Int32) then (0 : Int32) else (if z6 = (0 : Int32) then (1 : Int32) else (if z34 = (0 : Int32) then (1 : Int32) else (0 : Int32)))); let z49 := (if (own_f12 z2 (p1 &&& (15 : Int32)) z11) = (0 : Int32) then (0 : Int32) else (if z6 = (0 : Int32) then (1 : Int32) else (if z34 = (0 : Int32) then (if z41 = (0 : Int32) then (1 : Int32) else (0 : Int32)) else (0 : Int32)))); let z55 := (if z34 = (0 : Int32) then (if z41 = (0 : Int32) then (if z49 = (0 : Int32) then (0 : Int32) else (1 : Int32)) else (1 : Int32)) else (1 : Int32)); let z64 := (if z10 = (0 : Int32) then (0 : Int32) else (if (own_f12 (p0 &&& (7 : Int32)) z12 z13) = (0 : Int32) then (0 : Int32) else (if z34 = (0 : Int32) then (if z6 = (0 : Int32) then (1 : Int32) else (if z55 = (0 : Int32) then (1 : Int32) else (0 : Int32))) else (0 : Int32)))); let z74 := (if z10 = (0 : Int32) then (0 : Int32) else (if (own_f12 z1 z12 z13) = (0 : Int32) then (0 : Int32) else (if z41 = (0 : Int32) then (if z6 = (0 : Int32) then (1 : Int32) else (if z55 = (0 : Int32) then (if z64 = (0 : Int32) then (1 : Int32) else (0 : Int32)) else (0 : Int32))) else (0 : Int32)))); let z85 := (if z10 = (0 : Int32) then (0 : Int32) else (if (own_f12 z2 z12 z13) = (0 : Int32) then (0 : Int32) else (if z49 = (0 : Int32) then (if z6 = (0 : Int32) then (1 : Int32) else (if z55 = (0 : Int32) then (if z64 = (0 : Int32) then (if z74 = (0 : Int32) then (1 : Int32) else (0 : Int32)) else (0 : Int32)) else (0 : Int32))) else (0 : Int32)))); let z91 := (if z34 = (0 : Int32) then (0 : Int32) else (1 : Int32)); let f92 := (if z34 = (0 : Int32) then (fun _ => (0 : Int32)) else (own_set (fun _ => (0 : Int32)) (0 : Int32) p2)); let z97 := (if z41 = (0 : Int32) then z91 else (z91 + (1 : Int32))); let f98 := (if z41 = (0 : Int32) then f92 else (own_set f92 z91 p3)); let z103 := (if z49 = (0 : Int32) then z97 else (z97 + (1 : Int32))); let f104 := (if z49 = (0 : Int32) then f98 else (own_set f98 z97 p4)); let z109 := (if z64 = (0 : Int32) then z103 else (z103 + (1 : Int32))); let f110 := (if z64 = (0 : Int32) then f104 else (own_set f104 z103 p2)); let z115 := (if z74 = (0 : Int32) then z109 else (z109 + (1 : Int32))); let f116 := (if z74 = (0 : Int32) then f110 else (own_set f110 z109 p3)); let z121 := (if z85 = (0 : Int32) then z115 else (z115 + (1 : Int32))); let f122 := (if z85 = (0 : Int32) then f116 else (own_set f116 z115 p4)); (if f30 = z121 then ((if (own_f13 z121 (0 : Int32) f30 gR32 (6 : Int32) f122) = (0 : Int32) then ((0 : Int32)) else ((if (own_f13 z121 (1 : Int32) f30 gR32 (6 : Int32) f122) = (0 : Int32) then ((0 : Int32)) else ((if (own_f13 z121 (2 : Int32) f30 gR32 (6 : Int32) f122) = (0 : Int32) then ((0 : Int32)) else ((if (own_f13 z121 (3 : Int32) f30 gR32 (6 : Int32) f122) = (0 : Int32) then ((0 : Int32)) else ((if (own_f13 z121 (4 : Int32) f30 gR32 (6 : Int32) f122) = (0 : Int32) then ((0 : Int32)) else ((if (own_f13 z121 (5 : Int32) f30 gR32 (6 : Int32) f122) = (0 : Int32) then ((0 : Int32)) else ((1 : Int32)))))))))))))) else ((0 : Int32)))
def own_gE (p2 p3 p4 : Int32) : Nat → Int32 := (own_set (own_set (own_set (fun _ => (0 : Int32)) (0 : Int32) p2) (1 : Int32) p3) (2 : Int32) p4)
def own_fo (p0 : Int32) : Int32 := (if ((own_iushr p0 (7 : Int32)) &&& (1 : Int32)) = (0 : Int32) then (0 : Int32) else (1 : Int32))
def own_sec (p0 : Int32) : Int32 := (if ((own_iushr p0 (8 : Int32)) &&& (1 : Int32)) = (0 : Int32) then (0 : Int32) else (1 : Int32))
def own_F1 (p0 p1 : Int32) (gB : Nat → Int32) : Int32 × (Nat → Int32) × (Nat → Int32) := own_find (p1 &&& (15 : Int32)) ((own_iushr p1 (4 : Int32)) &&& (15 : Int32)) (own_f3 (own_gN p0)) ((own_iushr (own_gN p0 2) (own_f3 (own_gN p0))) + (2 : Int32)) gB (own_gN p0) (own_fo p0 &&& 1) ((1 : Int32) + (1 : Int32)) (0 : Int32) (fun _ => (0 : Int32)) (fun _ => (0 : Int32))
def own_F2 (p0 p1 : Int32) (gB : Nat → Int32) : Int32 × (Nat → Int32) × (Nat → Int32) := own_find ((own_iushr p1 (8 : Int32)) &&& (15 : Int32)) ((own_iushr p1 (12 : Int32)) &&& (15 : Int32)) (own_f3 (own_gN p0)) ((own_iushr (own_gN p0 2) (own_f3 (own_gN p0))) + (2 : Int32)) gB (own_gN p0) (own_fo p0 &&& 1) ((1 : Int32) + (1 : Int32)) (own_F1 p0 p1 gB).1 (own_F1 p0 p1 gB).2.1 (own_F1 p0 p1 gB).2.2
def own_C (p0 p1 : Int32) (gB : Nat → Int32) : Int32 := if own_sec p0 = (0 : Int32) then (own_F1 p0 p1 gB).1 else (own_F2 p0 p1 gB).1
def own_DD (p0 p1 : Int32) (gB : Nat → Int32) : Nat → Int32 := if own_sec p0 = (0 : Int32) then (own_F1 p0 p1 gB).2.2 else (own_F2 p0 p1 gB).2.2
/-! the same with the numbers' order alone -/
def own_i4 (s : Fin 4) : Int32 := Int32.ofNat s.val
def own_b (t : Bool) : Int32 := if t = true then 1 else 0
def own_N (t0 t1 t2 : Bool) (i : Nat) : Int32 := if i = 0 then own_b t0 else if i = 1 then own_b t1 else own_b t2
def own_inb (s : Fin 4) (t : Bool) (i : Nat) : Int32 := if s.val ≤ i ∧ t = false then 1 else 0
def own_z1 (a fo z0 : Int32) : Int32 := (if a = (0 : Int32) then (0 : Int32) else (if fo = (0 : Int32) then (1 : Int32) else (if z0 = (0 : Int32) then (1 : Int32) else (0 : Int32))))
def own_z2 (a fo z0 z1 : Int32) : Int32 := (if a = (0 : Int32) then (0 : Int32) else (if fo = (0 : Int32) then (1 : Int32) else (if z0 = (0 : Int32) then (if z1 = (0 : Int32) then (1 : Int32) else (0 : Int32)) else (0 : Int32))))
def own_any (z0 z1 z2 : Int32) : Int32 := (if z0 = (0 : Int32) then (if z1 = (0 : Int32) then (if z2 = (0 : Int32) then (0 : Int32) else (1 : Int32)) else (1 : Int32)) else (1 : Int32))
def own_y0 (se a z fo any : Int32) : Int32 := (if se = (0 : Int32) then (0 : Int32) else (if a = (0 : Int32) then (0 : Int32) else (if z = (0 : Int32) then (if fo = (0 : Int32) then (1 : Int32) else (if any = (0 : Int32) then (1 : Int32) else (0 : Int32))) else (0 : Int32))))
def own_y1 (se a z fo any y0 : Int32) : Int32 := (if se = (0 : Int32) then (0 : Int32) else (if a = (0 : Int32) then (0 : Int32) else (if z = (0 : Int32) then (if fo = (0 : Int32) then (1 : Int32) else (if any = (0 : Int32) then (if y0 = (0 : Int32) then (1 : Int32) else (0 : Int32)) else (0 : Int32))) else (0 : Int32))))
def own_y2 (se a z fo any y0 y1 : Int32) : Int32 := (if se = (0 : Int32) then (0 : Int32) else (if a = (0 : Int32) then (0 : Int32) else (if z = (0 : Int32) then (if fo = (0 : Int32) then (1 : Int32) else (if any = (0 : Int32) then (if y0 = (0 : Int32) then (if y1 = (0 : Int32) then (1 : Int32) else (0 : Int32)) else (0 : Int32)) else (0 : Int32))) else (0 : Int32))))
def own_kk (z k : Int32) : Int32 := if z = (0 : Int32) then k else (k + (1 : Int32))
def own_ii (z k j : Int32) (I : Nat → Int32) : Nat → Int32 := if z = (0 : Int32) then I else own_set I k j
def own_K (z0 z1 z2 y0 y1 y2 : Int32) : Int32 := own_kk y2 (own_kk y1 (own_kk y0 (own_kk z2 (own_kk z1 (own_kk z0 0)))))
def own_I (z0 z1 z2 y0 y1 y2 : Int32) : Nat → Int32 := own_ii y2 (own_kk y1 (own_kk y0 (own_kk z2 (own_kk z1 (own_kk z0 0))))) 2 (own_ii y1 (own_kk y0 (own_kk z2 (own_kk z1 (own_kk z0 0)))) 1 (own_ii y0 (own_kk z2 (own_kk z1 (own_kk z0 0))) 0 (own_ii z2 (own_kk z1 (own_kk z0 0)) 2 (own_ii z1 (own_kk z0 0) 1 (own_ii z0 0 0 (fun _ => 3))))))
def own_good (c k : Int32) (D I : Nat → Int32) : Bool := decide (c = k) && ((decide (k ≤ 0) || decide (D 0 = I 0)) && (decide (k ≤ 1) || decide (D 1 = I 1)) && (decide (k ≤ 2) || decide (D 2 = I 2)) && (decide (k ≤ 3) || decide (D 3 = I 3)) && (decide (k ≤ 4) || decide (D 4 = I 4)) && (decide (k ≤ 5) || decide (D 5 = I 5)))
def own_G6 (c : Int32) (D : Nat → Int32) (z0 z1 z2 y0 y1 y2 : Int32) : Bool := own_good c (own_K z0 z1 z2 y0 y1 y2) D (own_I z0 z1 z2 y0 y1 y2)
def own_G4 (c : Int32) (D : Nat → Int32) (fo se b0 b1 b2 z0 z1 z2 any y0 : Int32) : Bool := (fun y1 => own_G6 c D z0 z1 z2 y0 y1 (own_y2 se b2 z2 fo any y0 y1)) (own_y1 se b1 z1 fo any y0)
def own_G3 (c : Int32) (D : Nat → Int32) (fo se b0 b1 b2 z0 z1 z2 any : Int32) : Bool := own_G4 c D fo se b0 b1 b2 z0 z1 z2 any (own_y0 se b0 z0 fo any)
def own_G2 (c : Int32) (D : Nat → Int32) (fo se b0 b1 b2 z0 z1 z2 : Int32) : Bool := own_G3 c D fo se b0 b1 b2 z0 z1 z2 (own_any z0 z1 z2)
def own_G1 (c : Int32) (D : Nat → Int32) (fo se a2 b0 b1 b2 z0 z1 : Int32) : Bool := own_G2 c D fo se b0 b1 b2 z0 z1 (own_z2 a2 fo z0 z1)
def own_G0 (c : Int32) (D : Nat → Int32) (fo se a0 a1 a2 b0 b1 b2 : Int32) : Bool := own_G1 c D fo se a2 b0 b1 b2 a0 (own_z1 a1 fo a0)
def own_A (N : Nat → Int32) (hi fo s c : Int32) (F D : Nat → Int32) : Int32 × (Nat → Int32) × (Nat → Int32) := own_R N hi (fo &&& 1) ((1 : Int32) + (1 : Int32)) 3 (own_nf F ((1 : Int32) + (1 : Int32)) s) c F D
def own_A1 (s : Fin 4) (t0 t1 t2 fo : Bool) : Int32 × (Nat → Int32) × (Nat → Int32) := own_A (own_N t0 t1 t2) 0 (own_b fo) (own_i4 s) 0 (fun _ => (0 : Int32)) (fun _ => (0 : Int32))
def own_chk (s1 s2 : Fin 4) (t0 t1 t2 u0 u1 u2 fo sec : Bool) : Bool :=
  (fun A : Int32 × (Nat → Int32) × (Nat → Int32) => (fun B : Int32 × (Nat → Int32) × (Nat → Int32) => own_G0 (if own_b sec = 0 then A.1 else B.1) (if own_b sec = 0 then A.2.2 else B.2.2) (own_b fo) (own_b sec) (own_inb s1 t0 0) (own_inb s1 t1 1) (own_inb s1 t2 2) (own_inb s2 u0 0) (own_inb s2 u1 1) (own_inb s2 u2 2)) (own_A (own_N u0 u1 u2) 0 (own_b fo) (own_i4 s2) A.1 A.2.1 A.2.2)) (own_A1 s1 t0 t1 t2 fo)
theorem own_abs : ∀ (s1 s2 : Fin 4) (t0 t1 t2 : Bool), (t0 = true → t1 = true) → (t1 = true → t2 = true) → ∀ (u0 u1 u2 : Bool), (u0 = true → u1 = true) → (u1 = true → u2 = true) → ∀ fo sec : Bool, own_chk s1 s2 t0 t1 t2 u0 u1 u2 fo sec = true := by decide +kernel
theorem own_nf0 (F : Nat → Int32) (se e : Int32) : 0 ≤ (own_nf F se e).toInt := by
  unfold own_nf
  (repeat' split) <;> decide
theorem own_Rt (N N' : Nat → Int32) (hi hi' fo se : Int32) (h : ∀ i : Nat, i < 3 → (hi < N i ↔ hi' < N' i)) : ∀ (k : Nat) (e c : Int32) (F D : Nat → Int32), 0 ≤ e.toInt → own_R N hi fo se k e c F D = own_R N' hi' fo se k e c F D := by
  intro k
  induction k with
  | zero => intro e c F D _; rfl
  | succ k ih =>
    intro e c F D he
    simp only [own_R]
    by_cases q : e < (3 : Int32)
    · have q' := q
      rw [Int32.lt_iff_toInt_lt, own_k3] at q'
      have hh := h e.toNatClampNeg (by show e.toInt.toNat < 3; omega)
      rw [if_pos q, if_pos q, ih _ _ _ _ (own_nf0 _ _ _)]
      by_cases r : hi < N e.toNatClampNeg
      · rw [if_pos r, if_pos (hh.mp r)]
      · rw [if_neg r, if_neg (fun z => r (hh.mpr z))]
    · rw [if_neg q, if_neg q]
theorem own_Nt (g : Nat → Int32) (hi : Int32) : ∀ i : Nat, i < 3 → (hi < g i ↔ (0 : Int32) < own_N (decide (hi < g 0)) (decide (hi < g 1)) (decide (hi < g 2)) i) := by
  have B : ∀ q : Prop, [Decidable q] → (q ↔ (0 : Int32) < own_b (decide q)) := by
    intro q _
    by_cases h : q <;> simp [own_b, h]
  intro i hi
  rcases (show i = 0 ∨ i = 1 ∨ i = 2 by omega) with rfl | rfl | rfl <;> simp only [own_N] <;> exact B _
theorem own_key {g gB : Nat → Int32} (hS : own_srt g) (hB : own_spB g (own_f3 g) gB) (l h : Int32) (hl : 0 ≤ l.toInt ∧ l.toInt < 64) : ∃ s : Fin 4, own_f8 l (own_f3 g) ((own_iushr (g 2) (own_f3 g)) + (2 : Int32)) gB g = own_i4 s ∧ (∀ i : Nat, i < 3 → own_f12 (g i) l h = own_inb s (decide (h < g i)) i) := by
  have fv := (own_f8v hS hB l hl).2
  unfold own_srt at hS
  have lt : own_fi g l < 4 := by unfold own_fi; (repeat' split) <;> decide
  refine ⟨⟨own_fi g l, lt⟩, ?_, ?_⟩
  · refine Int32.toInt_inj.mp ?_
    rw [fv]
    show _ = (Int32.ofNat (own_fi g l)).toInt
    rw [Int32.toInt_ofNat_small (by omega)]
  · intro i hi
    simp only [own_f12, own_inb, Int32.lt_iff_toInt_lt, decide_eq_false_iff_not]
    have key : own_fi g l ≤ i ↔ ¬ (g i).toInt < l.toInt := by
      unfold own_fi
      rcases (show i = 0 ∨ i = 1 ∨ i = 2 by omega) with rfl | rfl | rfl <;> (repeat' split) <;> omega
    simp only [key]
    by_cases a : (g i).toInt < l.toInt <;> by_cases b : h.toInt < (g i).toInt <;> simp [a, b]
theorem own_mon {g : Nat → Int32} (hS : own_srt g) (h : Int32) : (decide (h < g 0) = true → decide (h < g 1) = true) ∧ (decide (h < g 1) = true → decide (h < g 2) = true) := by
  unfold own_srt at hS
  simp only [decide_eq_true_iff, Int32.lt_iff_toInt_lt]
  omega
theorem own_fob (p0 : Int32) : ∃ b : Bool, own_fo p0 = own_b b := by
  unfold own_fo
  split
  · exact ⟨false, rfl⟩
  · exact ⟨true, rfl⟩
theorem own_secb (p0 : Int32) : ∃ b : Bool, own_sec p0 = own_b b := by
  unfold own_sec
  split
  · exact ⟨false, rfl⟩
  · exact ⟨true, rfl⟩
theorem own_all (p0 p1 : Int32) (gB : Nat → Int32) (hB : own_spB (own_gN p0) (own_f3 (own_gN p0)) gB) :
    own_G0 (own_C p0 p1 gB) (own_DD p0 p1 gB) (own_fo p0) (own_sec p0) (own_f12 (own_gN p0 0) (p1 &&& (15 : Int32)) ((own_iushr p1 (4 : Int32)) &&& (15 : Int32))) (own_f12 (own_gN p0 1) (p1 &&& (15 : Int32)) ((own_iushr p1 (4 : Int32)) &&& (15 : Int32))) (own_f12 (own_gN p0 2) (p1 &&& (15 : Int32)) ((own_iushr p1 (4 : Int32)) &&& (15 : Int32)))
      (own_f12 (own_gN p0 0) ((own_iushr p1 (8 : Int32)) &&& (15 : Int32)) ((own_iushr p1 (12 : Int32)) &&& (15 : Int32))) (own_f12 (own_gN p0 1) ((own_iushr p1 (8 : Int32)) &&& (15 : Int32)) ((own_iushr p1 (12 : Int32)) &&& (15 : Int32))) (own_f12 (own_gN p0 2) ((own_iushr p1 (8 : Int32)) &&& (15 : Int32)) ((own_iushr p1 (12 : Int32)) &&& (15 : Int32))) = true := by
  have hS : own_srt (own_gN p0) := own_m2srt p0
  have f1 : own_F1 p0 p1 gB = own_A (own_gN p0) ((own_iushr p1 (4 : Int32)) &&& (15 : Int32)) (own_fo p0) (own_f8 (p1 &&& (15 : Int32)) (own_f3 (own_gN p0)) ((own_iushr (own_gN p0 2) (own_f3 (own_gN p0))) + (2 : Int32)) gB (own_gN p0)) 0 (fun _ => (0 : Int32)) (fun _ => (0 : Int32)) := rfl
  have f2 : own_F2 p0 p1 gB = own_A (own_gN p0) ((own_iushr p1 (12 : Int32)) &&& (15 : Int32)) (own_fo p0) (own_f8 ((own_iushr p1 (8 : Int32)) &&& (15 : Int32)) (own_f3 (own_gN p0)) ((own_iushr (own_gN p0 2) (own_f3 (own_gN p0))) + (2 : Int32)) gB (own_gN p0)) (own_F1 p0 p1 gB).1 (own_F1 p0 p1 gB).2.1 (own_F1 p0 p1 gB).2.2 := rfl
  unfold own_C own_DD
  generalize own_F2 p0 p1 gB = X2 at *
  generalize own_F1 p0 p1 gB = X1 at *
  generalize own_gN p0 = g at *
  obtain ⟨s1, e1, i1⟩ := own_key hS hB (p1 &&& 15) ((own_iushr p1 (4 : Int32)) &&& (15 : Int32)) (own_m15 _)
  obtain ⟨s2, e2, i2⟩ := own_key hS hB ((own_iushr p1 (8 : Int32)) &&& (15 : Int32)) ((own_iushr p1 (12 : Int32)) &&& (15 : Int32)) (own_m15 _)
  obtain ⟨fo, hfo⟩ := own_fob p0
  obtain ⟨se, hse⟩ := own_secb p0
  rw [e1] at f1
  rw [e2] at f2
  rw [i1 0 (by decide), i1 1 (by decide), i1 2 (by decide), i2 0 (by decide), i2 1 (by decide), i2 2 (by decide), hfo, hse]
  rw [hfo] at f1 f2
  have m1 := own_mon hS ((own_iushr p1 (4 : Int32)) &&& (15 : Int32))
  have m2 := own_mon hS ((own_iushr p1 (12 : Int32)) &&& (15 : Int32))
  unfold own_A at f1 f2
  rw [own_Rt _ _ _ _ _ _ (own_Nt g _) _ _ _ _ _ (own_nf0 _ _ _)] at f1 f2
  have key := own_abs s1 s2 _ _ _ m1.1 m1.2 _ _ _ m2.1 m2.2 fo se
  subst f2 f1
  exact key
theorem own_goodE {c k : Int32} {D I : Nat → Int32} (h : own_good c k D I = true) : c = k ∧ ∀ i : Nat, i < 6 → (i : Int) < k.toInt → D i = I i := by
  simp only [own_good, Bool.and_eq_true, Bool.or_eq_true, decide_eq_true_iff, Int32.le_iff_toInt_le, own_k0, own_k1, own_k2, own_k3, show (4 : Int32).toInt = 4 from by decide, show (5 : Int32).toInt = 5 from by decide] at h
  obtain ⟨h0, h1⟩ := h
  refine ⟨h0, fun i hi hk => ?_⟩
  rcases (show i = 0 ∨ i = 1 ∨ i = 2 ∨ i = 3 ∨ i = 4 ∨ i = 5 by omega) with rfl | rfl | rfl | rfl | rfl | rfl
  · rcases h1.1.1.1.1.1 with q | q; exact absurd hk (by omega); exact q
  · rcases h1.1.1.1.1.2 with q | q; exact absurd hk (by omega); exact q
  · rcases h1.1.1.1.2 with q | q; exact absurd hk (by omega); exact q
  · rcases h1.1.1.2 with q | q; exact absurd hk (by omega); exact q
  · rcases h1.1.2 with q | q; exact absurd hk (by omega); exact q
  · rcases h1.2 with q | q; exact absurd hk (by omega); exact q
/-- the expected elements by their places -/
theorem own_xs {gE X I : Nat → Int32} {z k v j : Int32} (h : ∀ i, X i = gE (I i).toNatClampNeg) (hv : v = gE j.toNatClampNeg) : ∀ i, (if z = (0 : Int32) then X else own_set X k v) i = gE (own_ii z k j I i).toNatClampNeg := by
  intro i
  unfold own_ii
  split
  · exact h i
  · simp only [own_set]
    split
    · exact hv
    · exact h i
theorem own_at1 {k i nR nE : Int32} {gR gE : Nat → Int32} (h : i < k → gR i.toNatClampNeg = gE i.toNatClampNeg) : own_f13 k i nR gR nE gE = 1 := by
  unfold own_f13
  split
  · rw [if_pos (h ‹_›)]
  · rfl
theorem own_tail {c k : Int32} {gR X : Nat → Int32} (hc : c = k) (h : ∀ i : Nat, i < 6 → (i : Int) < k.toInt → gR i = X i) : ∀ i : Int32, 0 ≤ i.toInt → i.toInt < 6 → own_f13 k i c gR (6 : Int32) X = 1 := by
  intro i i0 i6
  refine own_at1 fun q => h _ (by show i.toInt.toNat < 6; omega) ?_
  rw [Int32.lt_iff_toInt_lt] at q
  show ((i.toInt.toNat : Nat) : Int) < _
  omega
set_option maxHeartbeats 4000000 in
theorem own_plain (p0 p1 p2 p3 p4 : Int32) (gB gR : Nat → Int32) (hB : own_spB (own_gN p0) (own_f3 (own_gN p0)) gB) (hR : ∀ j : Nat, (j : Int) < (own_C p0 p1 gB).toInt → gR j = own_gE p2 p3 p4 (own_DD p0 p1 gB j).toNatClampNeg) : own_f0 p0 p1 p2 p3 p4 gB gR = 1 := by
  have all := own_all p0 p1 gB hB
  unfold own_f0
  extract_lets n1 n2 fo se hi1 lo2 hi2 fA fB gN eA eB gE c D z0 z1 z2 any y0 y1 y2 k1 x1 k2 x2 k3 x3 k4 x4 k5 x5 k6 x6
  have hc : own_C p0 p1 gB = c := rfl
  have hD : own_DD p0 p1 gB = D := rfl
  have hfo : own_fo p0 = fo := rfl
  have hse : own_sec p0 = se := rfl
  have hz0 : own_f12 (own_gN p0 0) (p1 &&& (15 : Int32)) ((own_iushr p1 (4 : Int32)) &&& (15 : Int32)) = z0 := rfl
  have hz1 : own_z1 (own_f12 (own_gN p0 1) (p1 &&& (15 : Int32)) ((own_iushr p1 (4 : Int32)) &&& (15 : Int32))) fo z0 = z1 := rfl
  have hz2 : own_z2 (own_f12 (own_gN p0 2) (p1 &&& (15 : Int32)) ((own_iushr p1 (4 : Int32)) &&& (15 : Int32))) fo z0 z1 = z2 := rfl
  have han : own_any z0 z1 z2 = any := rfl
  have hy0 : own_y0 se (own_f12 (own_gN p0 0) ((own_iushr p1 (8 : Int32)) &&& (15 : Int32)) ((own_iushr p1 (12 : Int32)) &&& (15 : Int32))) z0 fo any = y0 := rfl
  have hy1 : own_y1 se (own_f12 (own_gN p0 1) ((own_iushr p1 (8 : Int32)) &&& (15 : Int32)) ((own_iushr p1 (12 : Int32)) &&& (15 : Int32))) z1 fo any y0 = y1 := rfl
  have hy2 : own_y2 se (own_f12 (own_gN p0 2) ((own_iushr p1 (8 : Int32)) &&& (15 : Int32)) ((own_iushr p1 (12 : Int32)) &&& (15 : Int32))) z2 fo any y0 y1 = y2 := rfl
  have hk1 : own_kk z0 0 = k1 := rfl
  have hk2 : own_kk z1 k1 = k2 := rfl
  have hk3 : own_kk z2 k2 = k3 := rfl
  have hk4 : own_kk y0 k3 = k4 := rfl
  have hk5 : own_kk y1 k4 = k5 := rfl
  have hk6 : own_kk y2 k5 = k6 := rfl
  have e1 : ∀ i, x1 i = own_gE p2 p3 p4 (own_ii z0 0 0 (fun _ => 3) i).toNatClampNeg := own_xs (gE := own_gE p2 p3 p4) (X := fun _ => 0) (I := fun _ => 3) (fun i => rfl) (v := p2) (j := 0) rfl
  have e2 : ∀ i, x2 i = own_gE p2 p3 p4 (own_ii z1 k1 1 (own_ii z0 0 0 (fun _ => 3)) i).toNatClampNeg := own_xs e1 (v := p3) (j := 1) rfl
  have e3 : ∀ i, x3 i = own_gE p2 p3 p4 (own_ii z2 k2 2 (own_ii z1 k1 1 (own_ii z0 0 0 (fun _ => 3))) i).toNatClampNeg := own_xs e2 (v := p4) (j := 2) rfl
  have e4 : ∀ i, x4 i = own_gE p2 p3 p4 (own_ii y0 k3 0 (own_ii z2 k2 2 (own_ii z1 k1 1 (own_ii z0 0 0 (fun _ => 3)))) i).toNatClampNeg := own_xs e3 (v := p2) (j := 0) rfl
  have e5 : ∀ i, x5 i = own_gE p2 p3 p4 (own_ii y1 k4 1 (own_ii y0 k3 0 (own_ii z2 k2 2 (own_ii z1 k1 1 (own_ii z0 0 0 (fun _ => 3))))) i).toNatClampNeg := own_xs e4 (v := p3) (j := 1) rfl
  have e6 : ∀ i, x6 i = own_gE p2 p3 p4 (own_ii y2 k5 2 (own_ii y1 k4 1 (own_ii y0 k3 0 (own_ii z2 k2 2 (own_ii z1 k1 1 (own_ii z0 0 0 (fun _ => 3)))))) i).toNatClampNeg := own_xs e5 (v := p4) (j := 2) rfl
  clear_value c D z0 z1 z2 any y0 y1 y2 x6 k6 k5 k4 k3 k2 k1
  clear e1 e2 e3 e4 e5
  rw [hc, hD] at hR
  rw [hc, hD, hfo, hse, hz0] at all
  unfold own_G0 at all; rw [hz1] at all
  unfold own_G1 at all; rw [hz2] at all
  unfold own_G2 at all; rw [han] at all
  unfold own_G3 at all; rw [hy0] at all
  unfold own_G4 at all; rw [hy1] at all
  dsimp only at all; rw [hy2] at all
  unfold own_G6 own_K own_I at all
  rw [hk1, hk2, hk3, hk4, hk5, hk6] at all
  obtain ⟨g1, g2⟩ := own_goodE all
  have T := own_tail (gR := gR) (X := x6) g1 fun i i6 ik => by rw [hR i (by rw [g1]; exact ik), g2 i i6 ik, e6 i]
  rw [if_pos g1]
  simp only [T 0 (by decide) (by decide), T 1 (by decide) (by decide), T 2 (by decide) (by decide), T 3 (by decide) (by decide), T 4 (by decide) (by decide), T 5 (by decide) (by decide)]
  rfl

theorem own_lf_own_f0_1 {p0 : Int32} {p1 : Int32} {p2 : Int32} {p3 : Int32} {p4 : Int32} {gB23 : Nat → Int32} {gR32 : Nat → Int32} {z1 : Int32} {z2 : Int32} {z6 : Int32} {z10 : Int32} {z11 : Int32} {z12 : Int32} {z13 : Int32} {f16 : Nat → Int32} {f17 : Nat → Int32} {f18 : Nat → Int32} {f30 : Int32} {z34 : Int32} {z41 : Int32} {z49 : Int32} {z55 : Int32} {z64 : Int32} {z74 : Int32} {z85 : Int32} {z91 : Int32} {f92 : Nat → Int32} {z97 : Int32} {f98 : Nat → Int32} {z103 : Int32} {f104 : Nat → Int32} {z109 : Int32} {f110 : Nat → Int32} {z115 : Int32} {f116 : Nat → Int32} {z121 : Int32} {f122 : Nat → Int32} (hz1 : ((p0 &&& (7 : Int32)) + ((own_iushr p0 (3 : Int32)) &&& (3 : Int32))) = z1) (hz2 : (z1 + ((own_iushr p0 (5 : Int32)) &&& (3 : Int32))) = z2) (hz6 : (if ((own_iushr p0 (7 : Int32)) &&& (1 : Int32)) = (0 : Int32) then (0 : Int32) else (1 : Int32)) = z6) (hz10 : (if ((own_iushr p0 (8 : Int32)) &&& (1 : Int32)) = (0 : Int32) then (0 : Int32) else (1 : Int32)) = z10) (hz11 : ((own_iushr p1 (4 : Int32)) &&& (15 : Int32)) = z11) (hz12 : ((own_iushr p1 (8 : Int32)) &&& (15 : Int32)) = z12) (hz13 : ((own_iushr p1 (12 : Int32)) &&& (15 : Int32)) = z13) (hf16 : f16 = (own_set (fun _ => (0 : Int32)) (0 : Int32) (p0 &&& (7 : Int32)))) (hf17 : f17 = (own_set f16 (1 : Int32) z1)) (hf18 : f18 = (own_set f17 (2 : Int32) z2)) (hf30 : f30 = (if z10 = (0 : Int32) then (own_find (p1 &&& (15 : Int32)) z11 (own_f3 f18) ((own_iushr (f18 2) (own_f3 f18)) + (2 : Int32)) gB23 f18 (z6 &&& 1) ((1 : Int32) + (1 : Int32)) (0 : Int32) (fun _ => (0 : Int32)) (fun _ => (0 : Int32))).1 else (own_find z12 z13 (own_f3 f18) ((own_iushr (f18 2) (own_f3 f18)) + (2 : Int32)) gB23 f18 (z6 &&& 1) ((1 : Int32) + (1 : Int32)) (own_find (p1 &&& (15 : Int32)) z11 (own_f3 f18) ((own_iushr (f18 2) (own_f3 f18)) + (2 : Int32)) gB23 f18 (z6 &&& 1) ((1 : Int32) + (1 : Int32)) (0 : Int32) (fun _ => (0 : Int32)) (fun _ => (0 : Int32))).1 (own_find (p1 &&& (15 : Int32)) z11 (own_f3 f18) ((own_iushr (f18 2) (own_f3 f18)) + (2 : Int32)) gB23 f18 (z6 &&& 1) ((1 : Int32) + (1 : Int32)) (0 : Int32) (fun _ => (0 : Int32)) (fun _ => (0 : Int32))).2.1 (own_find (p1 &&& (15 : Int32)) z11 (own_f3 f18) ((own_iushr (f18 2) (own_f3 f18)) + (2 : Int32)) gB23 f18 (z6 &&& 1) ((1 : Int32) + (1 : Int32)) (0 : Int32) (fun _ => (0 : Int32)) (fun _ => (0 : Int32))).2.2).1)) (hz34 : (own_f12 (p0 &&& (7 : Int32)) (p1 &&& (15 : Int32)) z11) = z34) (hz41 : (if (own_f12 z1 (p1 &&& (15 : Int32)) z11) = (0 : Int32) then (0 : Int32) else (if z6 = (0 : Int32) then (1 : Int32) else (if z34 = (0 : Int32) then (1 : Int32) else (0 : Int32)))) = z41) (hz49 : (if (own_f12 z2 (p1 &&& (15 : Int32)) z11) = (0 : Int32) then (0 : Int32) else (if z6 = (0 : Int32) then (1 : Int32) else (if z34 = (0 : Int32) then (if z41 = (0 : Int32) then (1 : Int32) else (0 : Int32)) else (0 : Int32)))) = z49) (hz55 : (if z34 = (0 : Int32) then (if z41 = (0 : Int32) then (if z49 = (0 : Int32) then (0 : Int32) else (1 : Int32)) else (1 : Int32)) else (1 : Int32)) = z55) (hz64 : (if z10 = (0 : Int32) then (0 : Int32) else (if (own_f12 (p0 &&& (7 : Int32)) z12 z13) = (0 : Int32) then (0 : Int32) else (if z34 = (0 : Int32) then (if z6 = (0 : Int32) then (1 : Int32) else (if z55 = (0 : Int32) then (1 : Int32) else (0 : Int32))) else (0 : Int32)))) = z64) (hz74 : (if z10 = (0 : Int32) then (0 : Int32) else (if (own_f12 z1 z12 z13) = (0 : Int32) then (0 : Int32) else (if z41 = (0 : Int32) then (if z6 = (0 : Int32) then (1 : Int32) else (if z55 = (0 : Int32) then (if z64 = (0 : Int32) then (1 : Int32) else (0 : Int32)) else (0 : Int32))) else (0 : Int32)))) = z74) (hz85 : (if z10 = (0 : Int32) then (0 : Int32) else (if (own_f12 z2 z12 z13) = (0 : Int32) then (0 : Int32) else (if z49 = (0 : Int32) then (if z6 = (0 : Int32) then (1 : Int32) else (if z55 = (0 : Int32) then (if z64 = (0 : Int32) then (if z74 = (0 : Int32) then (1 : Int32) else (0 : Int32)) else (0 : Int32)) else (0 : Int32))) else (0 : Int32)))) = z85) (hz91 : (if z34 = (0 : Int32) then (0 : Int32) else (1 : Int32)) = z91) (hf92 : f92 = (if z34 = (0 : Int32) then (fun _ => (0 : Int32)) else (own_set (fun _ => (0 : Int32)) (0 : Int32) p2))) (hz97 : (if z41 = (0 : Int32) then z91 else (z91 + (1 : Int32))) = z97) (hf98 : f98 = (if z41 = (0 : Int32) then f92 else (own_set f92 z91 p3))) (hz103 : (if z49 = (0 : Int32) then z97 else (z97 + (1 : Int32))) = z103) (hf104 : f104 = (if z49 = (0 : Int32) then f98 else (own_set f98 z97 p4))) (hz109 : (if z64 = (0 : Int32) then z103 else (z103 + (1 : Int32))) = z109) (hf110 : f110 = (if z64 = (0 : Int32) then f104 else (own_set f104 z103 p2))) (hz115 : (if z74 = (0 : Int32) then z109 else (z109 + (1 : Int32))) = z115) (hf116 : f116 = (if z74 = (0 : Int32) then f110 else (own_set f110 z109 p3))) (hz121 : (if z85 = (0 : Int32) then z115 else (z115 + (1 : Int32))) = z121) (hf122 : f122 = (if z85 = (0 : Int32) then f116 else (own_set f116 z115 p4))) (hc123 : f30 = z121) (hc125 : (own_f13 z121 (0 : Int32) f30 gR32 (6 : Int32) f122) = (0 : Int32)) : (some (.int (0 : Int32)) : Option Value) = some (.int (own_f0 p0 p1 p2 p3 p4 gB23 gR32)) := by
  unfold own_f0
  extract_lets y_z1 y_z2 y_z6 y_z10 y_z11 y_z12 y_z13 y_f16 y_f17 y_f18 y_f20 y_f21 y_f22 y_f30 y_f31 y_z34 y_z41 y_z49 y_z55 y_z64 y_z74 y_z85 y_z91 y_f92 y_z97 y_f98 y_z103 y_f104 y_z109 y_f110 y_z115 y_f116 y_z121 y_f122
  have q_z1 : y_z1 = z1 := hz1
  clear_value y_z1
  subst q_z1
  have q_z2 : y_z2 = z2 := hz2
  clear_value y_z2
  subst q_z2
  have q_z6 : y_z6 = z6 := hz6
  clear_value y_z6
  subst q_z6
  have q_z10 : y_z10 = z10 := hz10
  clear_value y_z10
  subst q_z10
  have q_z11 : y_z11 = z11 := hz11
  clear_value y_z11
  subst q_z11
  have q_z12 : y_z12 = z12 := hz12
  clear_value y_z12
  subst q_z12
  have q_z13 : y_z13 = z13 := hz13
  clear_value y_z13
  subst q_z13
  have q_f16 : y_f16 = f16 := hf16.symm
  clear_value y_f16
  subst q_f16
  have q_f17 : y_f17 = f17 := hf17.symm
  clear_value y_f17
  subst q_f17
  have q_f18 : y_f18 = f18 := hf18.symm
  clear_value y_f18
  subst q_f18
  have q_f30 : y_f30 = f30 := hf30.symm
  clear_value y_f30
  subst q_f30
  have q_z34 : y_z34 = z34 := hz34
  clear_value y_z34
  subst q_z34
  have q_z41 : y_z41 = z41 := hz41
  clear_value y_z41
  subst q_z41
  have q_z49 : y_z49 = z49 := hz49
  clear_value y_z49
  subst q_z49
  have q_z55 : y_z55 = z55 := hz55
  clear_value y_z55
  subst q_z55
  have q_z64 : y_z64 = z64 := hz64
  clear_value y_z64
  subst q_z64
  have q_z74 : y_z74 = z74 := hz74
  clear_value y_z74
  subst q_z74
  have q_z85 : y_z85 = z85 := hz85
  clear_value y_z85
  subst q_z85
  have q_z91 : y_z91 = z91 := hz91
  clear_value y_z91
  subst q_z91
  have q_f92 : y_f92 = f92 := hf92.symm
  clear_value y_f92
  subst q_f92
  have q_z97 : y_z97 = z97 := hz97
  clear_value y_z97
  subst q_z97
  have q_f98 : y_f98 = f98 := hf98.symm
  clear_value y_f98
  subst q_f98
  have q_z103 : y_z103 = z103 := hz103
  clear_value y_z103
  subst q_z103
  have q_f104 : y_f104 = f104 := hf104.symm
  clear_value y_f104
  subst q_f104
  have q_z109 : y_z109 = z109 := hz109
  clear_value y_z109
  subst q_z109
  have q_f110 : y_f110 = f110 := hf110.symm
  clear_value y_f110
  subst q_f110
  have q_z115 : y_z115 = z115 := hz115
  clear_value y_z115
  subst q_z115
  have q_f116 : y_f116 = f116 := hf116.symm
  clear_value y_f116
  subst q_f116
  have q_z121 : y_z121 = z121 := hz121
  clear_value y_z121
  subst q_z121
  have q_f122 : y_f122 = f122 := hf122.symm
  clear_value y_f122
  subst q_f122
  first | (simp only [if_pos hc123, if_pos hc125]; done) | (simp only [if_pos hc123, if_pos hc125]; rfl)
set_option maxRecDepth 65536 in
set_option maxHeartbeats 40000000 in
theorem own_hy1 {p0 p1 p2 p3 p4 : Int32} {gB23 gR32 : Nat → Int32} {z1 : Int32} {z2 : Int32} {f16 : Nat → Int32} {f17 : Nat → Int32} {f18 : Nat → Int32} (hz1 : ((p0 &&& (7 : Int32)) + ((own_iushr p0 (3 : Int32)) &&& (3 : Int32))) = z1) (hz2 : (z1 + ((own_iushr p0 (5 : Int32)) &&& (3 : Int32))) = z2) (hf16 : f16 = (own_set (fun _ => (0 : Int32)) (0 : Int32) (p0 &&& (7 : Int32)))) (hf17 : f17 = (own_set f16 (1 : Int32) z1)) (hf18 : f18 = (own_set f17 (2 : Int32) z2)) (q : own_spB f18 (own_f3 f18) gB23) : own_spB (own_gN p0) (own_f3 (own_gN p0)) gB23 := by
  subst hf18
  subst hf17
  subst hf16
  subst hz2
  subst hz1
  exact q
set_option maxRecDepth 65536 in
set_option maxHeartbeats 40000000 in
theorem own_hy2 {p0 p1 p2 p3 p4 : Int32} {gB23 gR32 : Nat → Int32} {z1 : Int32} {z2 : Int32} {z6 : Int32} {z10 : Int32} {z11 : Int32} {z12 : Int32} {z13 : Int32} {f16 : Nat → Int32} {f17 : Nat → Int32} {f18 : Nat → Int32} {f20 : Nat → Int32} {f21 : Nat → Int32} {f22 : Nat → Int32} {f30 : Int32} {f31 : Nat → Int32} (hz1 : ((p0 &&& (7 : Int32)) + ((own_iushr p0 (3 : Int32)) &&& (3 : Int32))) = z1) (hz2 : (z1 + ((own_iushr p0 (5 : Int32)) &&& (3 : Int32))) = z2) (hz6 : (if ((own_iushr p0 (7 : Int32)) &&& (1 : Int32)) = (0 : Int32) then (0 : Int32) else (1 : Int32)) = z6) (hz10 : (if ((own_iushr p0 (8 : Int32)) &&& (1 : Int32)) = (0 : Int32) then (0 : Int32) else (1 : Int32)) = z10) (hz11 : ((own_iushr p1 (4 : Int32)) &&& (15 : Int32)) = z11) (hz12 : ((own_iushr p1 (8 : Int32)) &&& (15 : Int32)) = z12) (hz13 : ((own_iushr p1 (12 : Int32)) &&& (15 : Int32)) = z13) (hf16 : f16 = (own_set (fun _ => (0 : Int32)) (0 : Int32) (p0 &&& (7 : Int32)))) (hf17 : f17 = (own_set f16 (1 : Int32) z1)) (hf18 : f18 = (own_set f17 (2 : Int32) z2)) (hf20 : f20 = (own_set (fun _ => (0 : Int32)) (0 : Int32) p2)) (hf21 : f21 = (own_set f20 (1 : Int32) p3)) (hf22 : f22 = (own_set f21 (2 : Int32) p4)) (hf30 : f30 = (if z10 = (0 : Int32) then (own_find (p1 &&& (15 : Int32)) z11 (own_f3 f18) ((own_iushr (f18 2) (own_f3 f18)) + (2 : Int32)) gB23 f18 (z6 &&& 1) ((1 : Int32) + (1 : Int32)) (0 : Int32) (fun _ => (0 : Int32)) (fun _ => (0 : Int32))).1 else (own_find z12 z13 (own_f3 f18) ((own_iushr (f18 2) (own_f3 f18)) + (2 : Int32)) gB23 f18 (z6 &&& 1) ((1 : Int32) + (1 : Int32)) (own_find (p1 &&& (15 : Int32)) z11 (own_f3 f18) ((own_iushr (f18 2) (own_f3 f18)) + (2 : Int32)) gB23 f18 (z6 &&& 1) ((1 : Int32) + (1 : Int32)) (0 : Int32) (fun _ => (0 : Int32)) (fun _ => (0 : Int32))).1 (own_find (p1 &&& (15 : Int32)) z11 (own_f3 f18) ((own_iushr (f18 2) (own_f3 f18)) + (2 : Int32)) gB23 f18 (z6 &&& 1) ((1 : Int32) + (1 : Int32)) (0 : Int32) (fun _ => (0 : Int32)) (fun _ => (0 : Int32))).2.1 (own_find (p1 &&& (15 : Int32)) z11 (own_f3 f18) ((own_iushr (f18 2) (own_f3 f18)) + (2 : Int32)) gB23 f18 (z6 &&& 1) ((1 : Int32) + (1 : Int32)) (0 : Int32) (fun _ => (0 : Int32)) (fun _ => (0 : Int32))).2.2).1)) (hf31 : f31 = (if z10 = (0 : Int32) then (own_find (p1 &&& (15 : Int32)) z11 (own_f3 f18) ((own_iushr (f18 2) (own_f3 f18)) + (2 : Int32)) gB23 f18 (z6 &&& 1) ((1 : Int32) + (1 : Int32)) (0 : Int32) (fun _ => (0 : Int32)) (fun _ => (0 : Int32))).2.2 else (own_find z12 z13 (own_f3 f18) ((own_iushr (f18 2) (own_f3 f18)) + (2 : Int32)) gB23 f18 (z6 &&& 1) ((1 : Int32) + (1 : Int32)) (own_find (p1 &&& (15 : Int32)) z11 (own_f3 f18) ((own_iushr (f18 2) (own_f3 f18)) + (2 : Int32)) gB23 f18 (z6 &&& 1) ((1 : Int32) + (1 : Int32)) (0 : Int32) (fun _ => (0 : Int32)) (fun _ => (0 : Int32))).1 (own_find (p1 &&& (15 : Int32)) z11 (own_f3 f18) ((own_iushr (f18 2) (own_f3 f18)) + (2 : Int32)) gB23 f18 (z6 &&& 1) ((1 : Int32) + (1 : Int32)) (0 : Int32) (fun _ => (0 : Int32)) (fun _ => (0 : Int32))).2.1 (own_find (p1 &&& (15 : Int32)) z11 (own_f3 f18) ((own_iushr (f18 2) (own_f3 f18)) + (2 : Int32)) gB23 f18 (z6 &&& 1) ((1 : Int32) + (1 : Int32)) (0 : Int32) (fun _ => (0 : Int32)) (fun _ => (0 : Int32))).2.2).2.2)) (q : ∀ j : Nat, (j : Int) < f30.toInt → gR32 j = f22 (f31 j).toNatClampNeg) : ∀ j : Nat, (j : Int) < (own_C p0 p1 gB23).toInt → gR32 j = own_gE p2 p3 p4 (own_DD p0 p1 gB23 j).toNatClampNeg := by
  subst hf31
  subst hf30
  subst hf22
  subst hf21
  subst hf20
  subst hf18
  subst hf17
  subst hf16
  subst hz13
  subst hz12
  subst hz11
  subst hz10
  subst hz6
  subst hz2
  subst hz1
  exact q
theorem own_lf_own_f0_2 {p0 : Int32} {p1 : Int32} {p2 : Int32} {p3 : Int32} {p4 : Int32} {gB23 : Nat → Int32} {gR32 : Nat → Int32} {z1 : Int32} {z2 : Int32} {z6 : Int32} {z10 : Int32} {z11 : Int32} {z12 : Int32} {z13 : Int32} {f16 : Nat → Int32} {f17 : Nat → Int32} {f18 : Nat → Int32} {f30 : Int32} {z34 : Int32} {z41 : Int32} {z49 : Int32} {z55 : Int32} {z64 : Int32} {z74 : Int32} {z85 : Int32} {z91 : Int32} {f92 : Nat → Int32} {z97 : Int32} {f98 : Nat → Int32} {z103 : Int32} {f104 : Nat → Int32} {z109 : Int32} {f110 : Nat → Int32} {z115 : Int32} {f116 : Nat → Int32} {z121 : Int32} {f122 : Nat → Int32} (hz1 : ((p0 &&& (7 : Int32)) + ((own_iushr p0 (3 : Int32)) &&& (3 : Int32))) = z1) (hz2 : (z1 + ((own_iushr p0 (5 : Int32)) &&& (3 : Int32))) = z2) (hz6 : (if ((own_iushr p0 (7 : Int32)) &&& (1 : Int32)) = (0 : Int32) then (0 : Int32) else (1 : Int32)) = z6) (hz10 : (if ((own_iushr p0 (8 : Int32)) &&& (1 : Int32)) = (0 : Int32) then (0 : Int32) else (1 : Int32)) = z10) (hz11 : ((own_iushr p1 (4 : Int32)) &&& (15 : Int32)) = z11) (hz12 : ((own_iushr p1 (8 : Int32)) &&& (15 : Int32)) = z12) (hz13 : ((own_iushr p1 (12 : Int32)) &&& (15 : Int32)) = z13) (hf16 : f16 = (own_set (fun _ => (0 : Int32)) (0 : Int32) (p0 &&& (7 : Int32)))) (hf17 : f17 = (own_set f16 (1 : Int32) z1)) (hf18 : f18 = (own_set f17 (2 : Int32) z2)) (hf30 : f30 = (if z10 = (0 : Int32) then (own_find (p1 &&& (15 : Int32)) z11 (own_f3 f18) ((own_iushr (f18 2) (own_f3 f18)) + (2 : Int32)) gB23 f18 (z6 &&& 1) ((1 : Int32) + (1 : Int32)) (0 : Int32) (fun _ => (0 : Int32)) (fun _ => (0 : Int32))).1 else (own_find z12 z13 (own_f3 f18) ((own_iushr (f18 2) (own_f3 f18)) + (2 : Int32)) gB23 f18 (z6 &&& 1) ((1 : Int32) + (1 : Int32)) (own_find (p1 &&& (15 : Int32)) z11 (own_f3 f18) ((own_iushr (f18 2) (own_f3 f18)) + (2 : Int32)) gB23 f18 (z6 &&& 1) ((1 : Int32) + (1 : Int32)) (0 : Int32) (fun _ => (0 : Int32)) (fun _ => (0 : Int32))).1 (own_find (p1 &&& (15 : Int32)) z11 (own_f3 f18) ((own_iushr (f18 2) (own_f3 f18)) + (2 : Int32)) gB23 f18 (z6 &&& 1) ((1 : Int32) + (1 : Int32)) (0 : Int32) (fun _ => (0 : Int32)) (fun _ => (0 : Int32))).2.1 (own_find (p1 &&& (15 : Int32)) z11 (own_f3 f18) ((own_iushr (f18 2) (own_f3 f18)) + (2 : Int32)) gB23 f18 (z6 &&& 1) ((1 : Int32) + (1 : Int32)) (0 : Int32) (fun _ => (0 : Int32)) (fun _ => (0 : Int32))).2.2).1)) (hz34 : (own_f12 (p0 &&& (7 : Int32)) (p1 &&& (15 : Int32)) z11) = z34) (hz41 : (if (own_f12 z1 (p1 &&& (15 : Int32)) z11) = (0 : Int32) then (0 : Int32) else (if z6 = (0 : Int32) then (1 : Int32) else (if z34 = (0 : Int32) then (1 : Int32) else (0 : Int32)))) = z41) (hz49 : (if (own_f12 z2 (p1 &&& (15 : Int32)) z11) = (0 : Int32) then (0 : Int32) else (if z6 = (0 : Int32) then (1 : Int32) else (if z34 = (0 : Int32) then (if z41 = (0 : Int32) then (1 : Int32) else (0 : Int32)) else (0 : Int32)))) = z49) (hz55 : (if z34 = (0 : Int32) then (if z41 = (0 : Int32) then (if z49 = (0 : Int32) then (0 : Int32) else (1 : Int32)) else (1 : Int32)) else (1 : Int32)) = z55) (hz64 : (if z10 = (0 : Int32) then (0 : Int32) else (if (own_f12 (p0 &&& (7 : Int32)) z12 z13) = (0 : Int32) then (0 : Int32) else (if z34 = (0 : Int32) then (if z6 = (0 : Int32) then (1 : Int32) else (if z55 = (0 : Int32) then (1 : Int32) else (0 : Int32))) else (0 : Int32)))) = z64) (hz74 : (if z10 = (0 : Int32) then (0 : Int32) else (if (own_f12 z1 z12 z13) = (0 : Int32) then (0 : Int32) else (if z41 = (0 : Int32) then (if z6 = (0 : Int32) then (1 : Int32) else (if z55 = (0 : Int32) then (if z64 = (0 : Int32) then (1 : Int32) else (0 : Int32)) else (0 : Int32))) else (0 : Int32)))) = z74) (hz85 : (if z10 = (0 : Int32) then (0 : Int32) else (if (own_f12 z2 z12 z13) = (0 : Int32) then (0 : Int32) else (if z49 = (0 : Int32) then (if z6 = (0 : Int32) then (1 : Int32) else (if z55 = (0 : Int32) then (if z64 = (0 : Int32) then (if z74 = (0 : Int32) then (1 : Int32) else (0 : Int32)) else (0 : Int32)) else (0 : Int32))) else (0 : Int32)))) = z85) (hz91 : (if z34 = (0 : Int32) then (0 : Int32) else (1 : Int32)) = z91) (hf92 : f92 = (if z34 = (0 : Int32) then (fun _ => (0 : Int32)) else (own_set (fun _ => (0 : Int32)) (0 : Int32) p2))) (hz97 : (if z41 = (0 : Int32) then z91 else (z91 + (1 : Int32))) = z97) (hf98 : f98 = (if z41 = (0 : Int32) then f92 else (own_set f92 z91 p3))) (hz103 : (if z49 = (0 : Int32) then z97 else (z97 + (1 : Int32))) = z103) (hf104 : f104 = (if z49 = (0 : Int32) then f98 else (own_set f98 z97 p4))) (hz109 : (if z64 = (0 : Int32) then z103 else (z103 + (1 : Int32))) = z109) (hf110 : f110 = (if z64 = (0 : Int32) then f104 else (own_set f104 z103 p2))) (hz115 : (if z74 = (0 : Int32) then z109 else (z109 + (1 : Int32))) = z115) (hf116 : f116 = (if z74 = (0 : Int32) then f110 else (own_set f110 z109 p3))) (hz121 : (if z85 = (0 : Int32) then z115 else (z115 + (1 : Int32))) = z121) (hf122 : f122 = (if z85 = (0 : Int32) then f116 else (own_set f116 z115 p4))) (hc123 : f30 = z121) (hc125 : ¬ ((own_f13 z121 (0 : Int32) f30 gR32 (6 : Int32) f122) = (0 : Int32))) (hc127 : (own_f13 z121 (1 : Int32) f30 gR32 (6 : Int32) f122) = (0 : Int32)) : (some (.int (0 : Int32)) : Option Value) = some (.int (own_f0 p0 p1 p2 p3 p4 gB23 gR32)) := by
  unfold own_f0
  extract_lets y_z1 y_z2 y_z6 y_z10 y_z11 y_z12 y_z13 y_f16 y_f17 y_f18 y_f20 y_f21 y_f22 y_f30 y_f31 y_z34 y_z41 y_z49 y_z55 y_z64 y_z74 y_z85 y_z91 y_f92 y_z97 y_f98 y_z103 y_f104 y_z109 y_f110 y_z115 y_f116 y_z121 y_f122
  have q_z1 : y_z1 = z1 := hz1
  clear_value y_z1
  subst q_z1
  have q_z2 : y_z2 = z2 := hz2
  clear_value y_z2
  subst q_z2
  have q_z6 : y_z6 = z6 := hz6
  clear_value y_z6
  subst q_z6
  have q_z10 : y_z10 = z10 := hz10
  clear_value y_z10
  subst q_z10
  have q_z11 : y_z11 = z11 := hz11
  clear_value y_z11
  subst q_z11
  have q_z12 : y_z12 = z12 := hz12
  clear_value y_z12
  subst q_z12
  have q_z13 : y_z13 = z13 := hz13
  clear_value y_z13
  subst q_z13
  have q_f16 : y_f16 = f16 := hf16.symm
  clear_value y_f16
  subst q_f16
  have q_f17 : y_f17 = f17 := hf17.symm
  clear_value y_f17
  subst q_f17
  have q_f18 : y_f18 = f18 := hf18.symm
  clear_value y_f18
  subst q_f18
  have q_f30 : y_f30 = f30 := hf30.symm
  clear_value y_f30
  subst q_f30
  have q_z34 : y_z34 = z34 := hz34
  clear_value y_z34
  subst q_z34
  have q_z41 : y_z41 = z41 := hz41
  clear_value y_z41
  subst q_z41
  have q_z49 : y_z49 = z49 := hz49
  clear_value y_z49
  subst q_z49
  have q_z55 : y_z55 = z55 := hz55
  clear_value y_z55
  subst q_z55
  have q_z64 : y_z64 = z64 := hz64
  clear_value y_z64
  subst q_z64
  have q_z74 : y_z74 = z74 := hz74
  clear_value y_z74
  subst q_z74
  have q_z85 : y_z85 = z85 := hz85
  clear_value y_z85
  subst q_z85
  have q_z91 : y_z91 = z91 := hz91
  clear_value y_z91
  subst q_z91
  have q_f92 : y_f92 = f92 := hf92.symm
  clear_value y_f92
  subst q_f92
  have q_z97 : y_z97 = z97 := hz97
  clear_value y_z97
  subst q_z97
  have q_f98 : y_f98 = f98 := hf98.symm
  clear_value y_f98
  subst q_f98
  have q_z103 : y_z103 = z103 := hz103
  clear_value y_z103
  subst q_z103
  have q_f104 : y_f104 = f104 := hf104.symm
  clear_value y_f104
  subst q_f104
  have q_z109 : y_z109 = z109 := hz109
  clear_value y_z109
  subst q_z109
  have q_f110 : y_f110 = f110 := hf110.symm
  clear_value y_f110
  subst q_f110
  have q_z115 : y_z115 = z115 := hz115
  clear_value y_z115
  subst q_z115
  have q_f116 : y_f116 = f116 := hf116.symm
  clear_value y_f116
  subst q_f116
  have q_z121 : y_z121 = z121 := hz121
  clear_value y_z121
  subst q_z121
  have q_f122 : y_f122 = f122 := hf122.symm
  clear_value y_f122
  subst q_f122
  first | (simp only [if_pos hc123, if_neg hc125, if_pos hc127]; done) | (simp only [if_pos hc123, if_neg hc125, if_pos hc127]; rfl)
theorem own_lf_own_f0_3 {p0 : Int32} {p1 : Int32} {p2 : Int32} {p3 : Int32} {p4 : Int32} {gB23 : Nat → Int32} {gR32 : Nat → Int32} {z1 : Int32} {z2 : Int32} {z6 : Int32} {z10 : Int32} {z11 : Int32} {z12 : Int32} {z13 : Int32} {f16 : Nat → Int32} {f17 : Nat → Int32} {f18 : Nat → Int32} {f30 : Int32} {z34 : Int32} {z41 : Int32} {z49 : Int32} {z55 : Int32} {z64 : Int32} {z74 : Int32} {z85 : Int32} {z91 : Int32} {f92 : Nat → Int32} {z97 : Int32} {f98 : Nat → Int32} {z103 : Int32} {f104 : Nat → Int32} {z109 : Int32} {f110 : Nat → Int32} {z115 : Int32} {f116 : Nat → Int32} {z121 : Int32} {f122 : Nat → Int32} (hz1 : ((p0 &&& (7 : Int32)) + ((own_iushr p0 (3 : Int32)) &&& (3 : Int32))) = z1) (hz2 : (z1 + ((own_iushr p0 (5 : Int32)) &&& (3 : Int32))) = z2) (hz6 : (if ((own_iushr p0 (7 : Int32)) &&& (1 : Int32)) = (0 : Int32) then (0 : Int32) else (1 : Int32)) = z6) (hz10 : (if ((own_iushr p0 (8 : Int32)) &&& (1 : Int32)) = (0 : Int32) then (0 : Int32) else (1 : Int32)) = z10) (hz11 : ((own_iushr p1 (4 : Int32)) &&& (15 : Int32)) = z11) (hz12 : ((own_iushr p1 (8 : Int32)) &&& (15 : Int32)) = z12) (hz13 : ((own_iushr p1 (12 : Int32)) &&& (15 : Int32)) = z13) (hf16 : f16 = (own_set (fun _ => (0 : Int32)) (0 : Int32) (p0 &&& (7 : Int32)))) (hf17 : f17 = (own_set f16 (1 : Int32) z1)) (hf18 : f18 = (own_set f17 (2 : Int32) z2)) (hf30 : f30 = (if z10 = (0 : Int32) then (own_find (p1 &&& (15 : Int32)) z11 (own_f3 f18) ((own_iushr (f18 2) (own_f3 f18)) + (2 : Int32)) gB23 f18 (z6 &&& 1) ((1 : Int32) + (1 : Int32)) (0 : Int32) (fun _ => (0 : Int32)) (fun _ => (0 : Int32))).1 else (own_find z12 z13 (own_f3 f18) ((own_iushr (f18 2) (own_f3 f18)) + (2 : Int32)) gB23 f18 (z6 &&& 1) ((1 : Int32) + (1 : Int32)) (own_find (p1 &&& (15 : Int32)) z11 (own_f3 f18) ((own_iushr (f18 2) (own_f3 f18)) + (2 : Int32)) gB23 f18 (z6 &&& 1) ((1 : Int32) + (1 : Int32)) (0 : Int32) (fun _ => (0 : Int32)) (fun _ => (0 : Int32))).1 (own_find (p1 &&& (15 : Int32)) z11 (own_f3 f18) ((own_iushr (f18 2) (own_f3 f18)) + (2 : Int32)) gB23 f18 (z6 &&& 1) ((1 : Int32) + (1 : Int32)) (0 : Int32) (fun _ => (0 : Int32)) (fun _ => (0 : Int32))).2.1 (own_find (p1 &&& (15 : Int32)) z11 (own_f3 f18) ((own_iushr (f18 2) (own_f3 f18)) + (2 : Int32)) gB23 f18 (z6 &&& 1) ((1 : Int32) + (1 : Int32)) (0 : Int32) (fun _ => (0 : Int32)) (fun _ => (0 : Int32))).2.2).1)) (hz34 : (own_f12 (p0 &&& (7 : Int32)) (p1 &&& (15 : Int32)) z11) = z34) (hz41 : (if (own_f12 z1 (p1 &&& (15 : Int32)) z11) = (0 : Int32) then (0 : Int32) else (if z6 = (0 : Int32) then (1 : Int32) else (if z34 = (0 : Int32) then (1 : Int32) else (0 : Int32)))) = z41) (hz49 : (if (own_f12 z2 (p1 &&& (15 : Int32)) z11) = (0 : Int32) then (0 : Int32) else (if z6 = (0 : Int32) then (1 : Int32) else (if z34 = (0 : Int32) then (if z41 = (0 : Int32) then (1 : Int32) else (0 : Int32)) else (0 : Int32)))) = z49) (hz55 : (if z34 = (0 : Int32) then (if z41 = (0 : Int32) then (if z49 = (0 : Int32) then (0 : Int32) else (1 : Int32)) else (1 : Int32)) else (1 : Int32)) = z55) (hz64 : (if z10 = (0 : Int32) then (0 : Int32) else (if (own_f12 (p0 &&& (7 : Int32)) z12 z13) = (0 : Int32) then (0 : Int32) else (if z34 = (0 : Int32) then (if z6 = (0 : Int32) then (1 : Int32) else (if z55 = (0 : Int32) then (1 : Int32) else (0 : Int32))) else (0 : Int32)))) = z64) (hz74 : (if z10 = (0 : Int32) then (0 : Int32) else (if (own_f12 z1 z12 z13) = (0 : Int32) then (0 : Int32) else (if z41 = (0 : Int32) then (if z6 = (0 : Int32) then (1 : Int32) else (if z55 = (0 : Int32) then (if z64 = (0 : Int32) then (1 : Int32) else (0 : Int32)) else (0 : Int32))) else (0 : Int32)))) = z74) (hz85 : (if z10 = (0 : Int32) then (0 : Int32) else (if (own_f12 z2 z12 z13) = (0 : Int32) then (0 : Int32) else (if z49 = (0 : Int32) then (if z6 = (0 : Int32) then (1 : Int32) else (if z55 = (0 : Int32) then (if z64 = (0 : Int32) then (if z74 = (0 : Int32) then (1 : Int32) else (0 : Int32)) else (0 : Int32)) else (0 : Int32))) else (0 : Int32)))) = z85) (hz91 : (if z34 = (0 : Int32) then (0 : Int32) else (1 : Int32)) = z91) (hf92 : f92 = (if z34 = (0 : Int32) then (fun _ => (0 : Int32)) else (own_set (fun _ => (0 : Int32)) (0 : Int32) p2))) (hz97 : (if z41 = (0 : Int32) then z91 else (z91 + (1 : Int32))) = z97) (hf98 : f98 = (if z41 = (0 : Int32) then f92 else (own_set f92 z91 p3))) (hz103 : (if z49 = (0 : Int32) then z97 else (z97 + (1 : Int32))) = z103) (hf104 : f104 = (if z49 = (0 : Int32) then f98 else (own_set f98 z97 p4))) (hz109 : (if z64 = (0 : Int32) then z103 else (z103 + (1 : Int32))) = z109) (hf110 : f110 = (if z64 = (0 : Int32) then f104 else (own_set f104 z103 p2))) (hz115 : (if z74 = (0 : Int32) then z109 else (z109 + (1 : Int32))) = z115) (hf116 : f116 = (if z74 = (0 : Int32) then f110 else (own_set f110 z109 p3))) (hz121 : (if z85 = (0 : Int32) then z115 else (z115 + (1 : Int32))) = z121) (hf122 : f122 = (if z85 = (0 : Int32) then f116 else (own_set f116 z115 p4))) (hc123 : f30 = z121) (hc125 : ¬ ((own_f13 z121 (0 : Int32) f30 gR32 (6 : Int32) f122) = (0 : Int32))) (hc127 : ¬ ((own_f13 z121 (1 : Int32) f30 gR32 (6 : Int32) f122) = (0 : Int32))) (hc129 : (own_f13 z121 (2 : Int32) f30 gR32 (6 : Int32) f122) = (0 : Int32)) : (some (.int (0 : Int32)) : Option Value) = some (.int (own_f0 p0 p1 p2 p3 p4 gB23 gR32)) := by
  unfold own_f0
  extract_lets y_z1 y_z2 y_z6 y_z10 y_z11 y_z12 y_z13 y_f16 y_f17 y_f18 y_f20 y_f21 y_f22 y_f30 y_f31 y_z34 y_z41 y_z49 y_z55 y_z64 y_z74 y_z85 y_z91 y_f92 y_z97 y_f98 y_z103 y_f104 y_z109 y_f110 y_z115 y_f116 y_z121 y_f122
  have q_z1 : y_z1 = z1 := hz1
  clear_value y_z1
  subst q_z1
  have q_z2 : y_z2 = z2 := hz2
  clear_value y_z2
  subst q_z2
  have q_z6 : y_z6 = z6 := hz6
  clear_value y_z6
  subst q_z6
  have q_z10 : y_z10 = z10 := hz10
  clear_value y_z10
  subst q_z10
  have q_z11 : y_z11 = z11 := hz11
  clear_value y_z11
  subst q_z11
  have q_z12 : y_z12 = z12 := hz12
  clear_value y_z12
  subst q_z12
  have q_z13 : y_z13 = z13 := hz13
  clear_value y_z13
  subst q_z13
  have q_f16 : y_f16 = f16 := hf16.symm
  clear_value y_f16
  subst q_f16
  have q_f17 : y_f17 = f17 := hf17.symm
  clear_value y_f17
  subst q_f17
  have q_f18 : y_f18 = f18 := hf18.symm
  clear_value y_f18
  subst q_f18
  have q_f30 : y_f30 = f30 := hf30.symm
  clear_value y_f30
  subst q_f30
  have q_z34 : y_z34 = z34 := hz34
  clear_value y_z34
  subst q_z34
  have q_z41 : y_z41 = z41 := hz41
  clear_value y_z41
  subst q_z41
  have q_z49 : y_z49 = z49 := hz49
  clear_value y_z49
  subst q_z49
  have q_z55 : y_z55 = z55 := hz55
  clear_value y_z55
  subst q_z55
  have q_z64 : y_z64 = z64 := hz64
  clear_value y_z64
  subst q_z64
  have q_z74 : y_z74 = z74 := hz74
  clear_value y_z74
  subst q_z74
  have q_z85 : y_z85 = z85 := hz85
  clear_value y_z85
  subst q_z85
  have q_z91 : y_z91 = z91 := hz91
  clear_value y_z91
  subst q_z91
  have q_f92 : y_f92 = f92 := hf92.symm
  clear_value y_f92
  subst q_f92
  have q_z97 : y_z97 = z97 := hz97
  clear_value y_z97
  subst q_z97
  have q_f98 : y_f98 = f98 := hf98.symm
  clear_value y_f98
  subst q_f98
  have q_z103 : y_z103 = z103 := hz103
  clear_value y_z103
  subst q_z103
  have q_f104 : y_f104 = f104 := hf104.symm
  clear_value y_f104
  subst q_f104
  have q_z109 : y_z109 = z109 := hz109
  clear_value y_z109
  subst q_z109
  have q_f110 : y_f110 = f110 := hf110.symm
  clear_value y_f110
  subst q_f110
  have q_z115 : y_z115 = z115 := hz115
  clear_value y_z115
  subst q_z115
  have q_f116 : y_f116 = f116 := hf116.symm
  clear_value y_f116
  subst q_f116
  have q_z121 : y_z121 = z121 := hz121
  clear_value y_z121
  subst q_z121
  have q_f122 : y_f122 = f122 := hf122.symm
  clear_value y_f122
  subst q_f122
  first | (simp only [if_pos hc123, if_neg hc125, if_neg hc127, if_pos hc129]; done) | (simp only [if_pos hc123, if_neg hc125, if_neg hc127, if_pos hc129]; rfl)
theorem own_lf_own_f0_4 {p0 : Int32} {p1 : Int32} {p2 : Int32} {p3 : Int32} {p4 : Int32} {gB23 : Nat → Int32} {gR32 : Nat → Int32} {z1 : Int32} {z2 : Int32} {z6 : Int32} {z10 : Int32} {z11 : Int32} {z12 : Int32} {z13 : Int32} {f16 : Nat → Int32} {f17 : Nat → Int32} {f18 : Nat → Int32} {f30 : Int32} {z34 : Int32} {z41 : Int32} {z49 : Int32} {z55 : Int32} {z64 : Int32} {z74 : Int32} {z85 : Int32} {z91 : Int32} {f92 : Nat → Int32} {z97 : Int32} {f98 : Nat → Int32} {z103 : Int32} {f104 : Nat → Int32} {z109 : Int32} {f110 : Nat → Int32} {z115 : Int32} {f116 : Nat → Int32} {z121 : Int32} {f122 : Nat → Int32} (hz1 : ((p0 &&& (7 : Int32)) + ((own_iushr p0 (3 : Int32)) &&& (3 : Int32))) = z1) (hz2 : (z1 + ((own_iushr p0 (5 : Int32)) &&& (3 : Int32))) = z2) (hz6 : (if ((own_iushr p0 (7 : Int32)) &&& (1 : Int32)) = (0 : Int32) then (0 : Int32) else (1 : Int32)) = z6) (hz10 : (if ((own_iushr p0 (8 : Int32)) &&& (1 : Int32)) = (0 : Int32) then (0 : Int32) else (1 : Int32)) = z10) (hz11 : ((own_iushr p1 (4 : Int32)) &&& (15 : Int32)) = z11) (hz12 : ((own_iushr p1 (8 : Int32)) &&& (15 : Int32)) = z12) (hz13 : ((own_iushr p1 (12 : Int32)) &&& (15 : Int32)) = z13) (hf16 : f16 = (own_set (fun _ => (0 : Int32)) (0 : Int32) (p0 &&& (7 : Int32)))) (hf17 : f17 = (own_set f16 (1 : Int32) z1)) (hf18 : f18 = (own_set f17 (2 : Int32) z2)) (hf30 : f30 = (if z10 = (0 : Int32) then (own_find (p1 &&& (15 : Int32)) z11 (own_f3 f18) ((own_iushr (f18 2) (own_f3 f18)) + (2 : Int32)) gB23 f18 (z6 &&& 1) ((1 : Int32) + (1 : Int32)) (0 : Int32) (fun _ => (0 : Int32)) (fun _ => (0 : Int32))).1 else (own_find z12 z13 (own_f3 f18) ((own_iushr (f18 2) (own_f3 f18)) + (2 : Int32)) gB23 f18 (z6 &&& 1) ((1 : Int32) + (1 : Int32)) (own_find (p1 &&& (15 : Int32)) z11 (own_f3 f18) ((own_iushr (f18 2) (own_f3 f18)) + (2 : Int32)) gB23 f18 (z6 &&& 1) ((1 : Int32) + (1 : Int32)) (0 : Int32) (fun _ => (0 : Int32)) (fun _ => (0 : Int32))).1 (own_find (p1 &&& (15 : Int32)) z11 (own_f3 f18) ((own_iushr (f18 2) (own_f3 f18)) + (2 : Int32)) gB23 f18 (z6 &&& 1) ((1 : Int32) + (1 : Int32)) (0 : Int32) (fun _ => (0 : Int32)) (fun _ => (0 : Int32))).2.1 (own_find (p1 &&& (15 : Int32)) z11 (own_f3 f18) ((own_iushr (f18 2) (own_f3 f18)) + (2 : Int32)) gB23 f18 (z6 &&& 1) ((1 : Int32) + (1 : Int32)) (0 : Int32) (fun _ => (0 : Int32)) (fun _ => (0 : Int32))).2.2).1)) (hz34 : (own_f12 (p0 &&& (7 : Int32)) (p1 &&& (15 : Int32)) z11) = z34) (hz41 : (if (own_f12 z1 (p1 &&& (15 : Int32)) z11) = (0 : Int32) then (0 : Int32) else (if z6 = (0 : Int32) then (1 : Int32) else (if z34 = (0 : Int32) then (1 : Int32) else (0 : Int32)))) = z41) (hz49 : (if (own_f12 z2 (p1 &&& (15 : Int32)) z11) = (0 : Int32) then (0 : Int32) else (if z6 = (0 : Int32) then (1 : Int32) else (if z34 = (0 : Int32) then (if z41 = (0 : Int32) then (1 : Int32) else (0 : Int32)) else (0 : Int32)))) = z49) (hz55 : (if z34 = (0 : Int32) then (if z41 = (0 : Int32) then (if z49 = (0 : Int32) then (0 : Int32) else (1 : Int32)) else (1 : Int32)) else (1 : Int32)) = z55) (hz64 : (if z10 = (0 : Int32) then (0 : Int32) else (if (own_f12 (p0 &&& (7 : Int32)) z12 z13) = (0 : Int32) then (0 : Int32) else (if z34 = (0 : Int32) then (if z6 = (0 : Int32) then (1 : Int32) else (if z55 = (0 : Int32) then (1 : Int32) else (0 : Int32))) else (0 : Int32)))) = z64) (hz74 : (if z10 = (0 : Int32) then (0 : Int32) else (if (own_f12 z1 z12 z13) = (0 : Int32) then (0 : Int32) else (if z41 = (0 : Int32) then (if z6 = (0 : Int32) then (1 : Int32) else (if z55 = (0 : Int32) then (if z64 = (0 : Int32) then (1 : Int32) else (0 : Int32)) else (0 : Int32))) else (0 : Int32)))) = z74) (hz85 : (if z10 = (0 : Int32) then (0 : Int32) else (if (own_f12 z2 z12 z13) = (0 : Int32) then (0 : Int32) else (if z49 = (0 : Int32) then (if z6 = (0 : Int32) then (1 : Int32) else (if z55 = (0 : Int32) then (if z64 = (0 : Int32) then (if z74 = (0 : Int32) then (1 : Int32) else (0 : Int32)) else (0 : Int32)) else (0 : Int32))) else (0 : Int32)))) = z85) (hz91 : (if z34 = (0 : Int32) then (0 : Int32) else (1 : Int32)) = z91) (hf92 : f92 = (if z34 = (0 : Int32) then (fun _ => (0 : Int32)) else (own_set (fun _ => (0 : Int32)) (0 : Int32) p2))) (hz97 : (if z41 = (0 : Int32) then z91 else (z91 + (1 : Int32))) = z97) (hf98 : f98 = (if z41 = (0 : Int32) then f92 else (own_set f92 z91 p3))) (hz103 : (if z49 = (0 : Int32) then z97 else (z97 + (1 : Int32))) = z103) (hf104 : f104 = (if z49 = (0 : Int32) then f98 else (own_set f98 z97 p4))) (hz109 : (if z64 = (0 : Int32) then z103 else (z103 + (1 : Int32))) = z109) (hf110 : f110 = (if z64 = (0 : Int32) then f104 else (own_set f104 z103 p2))) (hz115 : (if z74 = (0 : Int32) then z109 else (z109 + (1 : Int32))) = z115) (hf116 : f116 = (if z74 = (0 : Int32) then f110 else (own_set f110 z109 p3))) (hz121 : (if z85 = (0 : Int32) then z115 else (z115 + (1 : Int32))) = z121) (hf122 : f122 = (if z85 = (0 : Int32) then f116 else (own_set f116 z115 p4))) (hc123 : f30 = z121) (hc125 : ¬ ((own_f13 z121 (0 : Int32) f30 gR32 (6 : Int32) f122) = (0 : Int32))) (hc127 : ¬ ((own_f13 z121 (1 : Int32) f30 gR32 (6 : Int32) f122) = (0 : Int32))) (hc129 : ¬ ((own_f13 z121 (2 : Int32) f30 gR32 (6 : Int32) f122) = (0 : Int32))) (hc131 : (own_f13 z121 (3 : Int32) f30 gR32 (6 : Int32) f122) = (0 : Int32)) : (some (.int (0 : Int32)) : Option Value) = some (.int (own_f0 p0 p1 p2 p3 p4 gB23 gR32)) := by
  unfold own_f0
  extract_lets y_z1 y_z2 y_z6 y_z10 y_z11 y_z12 y_z13 y_f16 y_f17 y_f18 y_f20 y_f21 y_f22 y_f30 y_f31 y_z34 y_z41 y_z49 y_z55 y_z64 y_z74 y_z85 y_z91 y_f92 y_z97 y_f98 y_z103 y_f104 y_z109 y_f110 y_z115 y_f116 y_z121 y_f122
  have q_z1 : y_z1 = z1 := hz1
  clear_value y_z1
  subst q_z1
  have q_z2 : y_z2 = z2 := hz2
  clear_value y_z2
  subst q_z2
  have q_z6 : y_z6 = z6 := hz6
  clear_value y_z6
  subst q_z6
  have q_z10 : y_z10 = z10 := hz10
  clear_value y_z10
  subst q_z10
  have q_z11 : y_z11 = z11 := hz11
  clear_value y_z11
  subst q_z11
  have q_z12 : y_z12 = z12 := hz12
  clear_value y_z12
  subst q_z12
  have q_z13 : y_z13 = z13 := hz13
  clear_value y_z13
  subst q_z13
  have q_f16 : y_f16 = f16 := hf16.symm
  clear_value y_f16
  subst q_f16
  have q_f17 : y_f17 = f17 := hf17.symm
  clear_value y_f17
  subst q_f17
  have q_f18 : y_f18 = f18 := hf18.symm
  clear_value y_f18
  subst q_f18
  have q_f30 : y_f30 = f30 := hf30.symm
  clear_value y_f30
  subst q_f30
  have q_z34 : y_z34 = z34 := hz34
  clear_value y_z34
  subst q_z34
  have q_z41 : y_z41 = z41 := hz41
  clear_value y_z41
  subst q_z41
  have q_z49 : y_z49 = z49 := hz49
  clear_value y_z49
  subst q_z49
  have q_z55 : y_z55 = z55 := hz55
  clear_value y_z55
  subst q_z55
  have q_z64 : y_z64 = z64 := hz64
  clear_value y_z64
  subst q_z64
  have q_z74 : y_z74 = z74 := hz74
  clear_value y_z74
  subst q_z74
  have q_z85 : y_z85 = z85 := hz85
  clear_value y_z85
  subst q_z85
  have q_z91 : y_z91 = z91 := hz91
  clear_value y_z91
  subst q_z91
  have q_f92 : y_f92 = f92 := hf92.symm
  clear_value y_f92
  subst q_f92
  have q_z97 : y_z97 = z97 := hz97
  clear_value y_z97
  subst q_z97
  have q_f98 : y_f98 = f98 := hf98.symm
  clear_value y_f98
  subst q_f98
  have q_z103 : y_z103 = z103 := hz103
  clear_value y_z103
  subst q_z103
  have q_f104 : y_f104 = f104 := hf104.symm
  clear_value y_f104
  subst q_f104
  have q_z109 : y_z109 = z109 := hz109
  clear_value y_z109
  subst q_z109
  have q_f110 : y_f110 = f110 := hf110.symm
  clear_value y_f110
  subst q_f110
  have q_z115 : y_z115 = z115 := hz115
  clear_value y_z115
  subst q_z115
  have q_f116 : y_f116 = f116 := hf116.symm
  clear_value y_f116
  subst q_f116
  have q_z121 : y_z121 = z121 := hz121
  clear_value y_z121
  subst q_z121
  have q_f122 : y_f122 = f122 := hf122.symm
  clear_value y_f122
  subst q_f122
  first | (simp only [if_pos hc123, if_neg hc125, if_neg hc127, if_neg hc129, if_pos hc131]; done) | (simp only [if_pos hc123, if_neg hc125, if_neg hc127, if_neg hc129, if_pos hc131]; rfl)
theorem own_lf_own_f0_5 {p0 : Int32} {p1 : Int32} {p2 : Int32} {p3 : Int32} {p4 : Int32} {gB23 : Nat → Int32} {gR32 : Nat → Int32} {z1 : Int32} {z2 : Int32} {z6 : Int32} {z10 : Int32} {z11 : Int32} {z12 : Int32} {z13 : Int32} {f16 : Nat → Int32} {f17 : Nat → Int32} {f18 : Nat → Int32} {f30 : Int32} {z34 : Int32} {z41 : Int32} {z49 : Int32} {z55 : Int32} {z64 : Int32} {z74 : Int32} {z85 : Int32} {z91 : Int32} {f92 : Nat → Int32} {z97 : Int32} {f98 : Nat → Int32} {z103 : Int32} {f104 : Nat → Int32} {z109 : Int32} {f110 : Nat → Int32} {z115 : Int32} {f116 : Nat → Int32} {z121 : Int32} {f122 : Nat → Int32} (hz1 : ((p0 &&& (7 : Int32)) + ((own_iushr p0 (3 : Int32)) &&& (3 : Int32))) = z1) (hz2 : (z1 + ((own_iushr p0 (5 : Int32)) &&& (3 : Int32))) = z2) (hz6 : (if ((own_iushr p0 (7 : Int32)) &&& (1 : Int32)) = (0 : Int32) then (0 : Int32) else (1 : Int32)) = z6) (hz10 : (if ((own_iushr p0 (8 : Int32)) &&& (1 : Int32)) = (0 : Int32) then (0 : Int32) else (1 : Int32)) = z10) (hz11 : ((own_iushr p1 (4 : Int32)) &&& (15 : Int32)) = z11) (hz12 : ((own_iushr p1 (8 : Int32)) &&& (15 : Int32)) = z12) (hz13 : ((own_iushr p1 (12 : Int32)) &&& (15 : Int32)) = z13) (hf16 : f16 = (own_set (fun _ => (0 : Int32)) (0 : Int32) (p0 &&& (7 : Int32)))) (hf17 : f17 = (own_set f16 (1 : Int32) z1)) (hf18 : f18 = (own_set f17 (2 : Int32) z2)) (hf30 : f30 = (if z10 = (0 : Int32) then (own_find (p1 &&& (15 : Int32)) z11 (own_f3 f18) ((own_iushr (f18 2) (own_f3 f18)) + (2 : Int32)) gB23 f18 (z6 &&& 1) ((1 : Int32) + (1 : Int32)) (0 : Int32) (fun _ => (0 : Int32)) (fun _ => (0 : Int32))).1 else (own_find z12 z13 (own_f3 f18) ((own_iushr (f18 2) (own_f3 f18)) + (2 : Int32)) gB23 f18 (z6 &&& 1) ((1 : Int32) + (1 : Int32)) (own_find (p1 &&& (15 : Int32)) z11 (own_f3 f18) ((own_iushr (f18 2) (own_f3 f18)) + (2 : Int32)) gB23 f18 (z6 &&& 1) ((1 : Int32) + (1 : Int32)) (0 : Int32) (fun _ => (0 : Int32)) (fun _ => (0 : Int32))).1 (own_find (p1 &&& (15 : Int32)) z11 (own_f3 f18) ((own_iushr (f18 2) (own_f3 f18)) + (2 : Int32)) gB23 f18 (z6 &&& 1) ((1 : Int32) + (1 : Int32)) (0 : Int32) (fun _ => (0 : Int32)) (fun _ => (0 : Int32))).2.1 (own_find (p1 &&& (15 : Int32)) z11 (own_f3 f18) ((own_iushr (f18 2) (own_f3 f18)) + (2 : Int32)) gB23 f18 (z6 &&& 1) ((1 : Int32) + (1 : Int32)) (0 : Int32) (fun _ => (0 : Int32)) (fun _ => (0 : Int32))).2.2).1)) (hz34 : (own_f12 (p0 &&& (7 : Int32)) (p1 &&& (15 : Int32)) z11) = z34) (hz41 : (if (own_f12 z1 (p1 &&& (15 : Int32)) z11) = (0 : Int32) then (0 : Int32) else (if z6 = (0 : Int32) then (1 : Int32) else (if z34 = (0 : Int32) then (1 : Int32) else (0 : Int32)))) = z41) (hz49 : (if (own_f12 z2 (p1 &&& (15 : Int32)) z11) = (0 : Int32) then (0 : Int32) else (if z6 = (0 : Int32) then (1 : Int32) else (if z34 = (0 : Int32) then (if z41 = (0 : Int32) then (1 : Int32) else (0 : Int32)) else (0 : Int32)))) = z49) (hz55 : (if z34 = (0 : Int32) then (if z41 = (0 : Int32) then (if z49 = (0 : Int32) then (0 : Int32) else (1 : Int32)) else (1 : Int32)) else (1 : Int32)) = z55) (hz64 : (if z10 = (0 : Int32) then (0 : Int32) else (if (own_f12 (p0 &&& (7 : Int32)) z12 z13) = (0 : Int32) then (0 : Int32) else (if z34 = (0 : Int32) then (if z6 = (0 : Int32) then (1 : Int32) else (if z55 = (0 : Int32) then (1 : Int32) else (0 : Int32))) else (0 : Int32)))) = z64) (hz74 : (if z10 = (0 : Int32) then (0 : Int32) else (if (own_f12 z1 z12 z13) = (0 : Int32) then (0 : Int32) else (if z41 = (0 : Int32) then (if z6 = (0 : Int32) then (1 : Int32) else (if z55 = (0 : Int32) then (if z64 = (0 : Int32) then (1 : Int32) else (0 : Int32)) else (0 : Int32))) else (0 : Int32)))) = z74) (hz85 : (if z10 = (0 : Int32) then (0 : Int32) else (if (own_f12 z2 z12 z13) = (0 : Int32) then (0 : Int32) else (if z49 = (0 : Int32) then (if z6 = (0 : Int32) then (1 : Int32) else (if z55 = (0 : Int32) then (if z64 = (0 : Int32) then (if z74 = (0 : Int32) then (1 : Int32) else (0 : Int32)) else (0 : Int32)) else (0 : Int32))) else (0 : Int32)))) = z85) (hz91 : (if z34 = (0 : Int32) then (0 : Int32) else (1 : Int32)) = z91) (hf92 : f92 = (if z34 = (0 : Int32) then (fun _ => (0 : Int32)) else (own_set (fun _ => (0 : Int32)) (0 : Int32) p2))) (hz97 : (if z41 = (0 : Int32) then z91 else (z91 + (1 : Int32))) = z97) (hf98 : f98 = (if z41 = (0 : Int32) then f92 else (own_set f92 z91 p3))) (hz103 : (if z49 = (0 : Int32) then z97 else (z97 + (1 : Int32))) = z103) (hf104 : f104 = (if z49 = (0 : Int32) then f98 else (own_set f98 z97 p4))) (hz109 : (if z64 = (0 : Int32) then z103 else (z103 + (1 : Int32))) = z109) (hf110 : f110 = (if z64 = (0 : Int32) then f104 else (own_set f104 z103 p2))) (hz115 : (if z74 = (0 : Int32) then z109 else (z109 + (1 : Int32))) = z115) (hf116 : f116 = (if z74 = (0 : Int32) then f110 else (own_set f110 z109 p3))) (hz121 : (if z85 = (0 : Int32) then z115 else (z115 + (1 : Int32))) = z121) (hf122 : f122 = (if z85 = (0 : Int32) then f116 else (own_set f116 z115 p4))) (hc123 : f30 = z121) (hc125 : ¬ ((own_f13 z121 (0 : Int32) f30 gR32 (6 : Int32) f122) = (0 : Int32))) (hc127 : ¬ ((own_f13 z121 (1 : Int32) f30 gR32 (6 : Int32) f122) = (0 : Int32))) (hc129 : ¬ ((own_f13 z121 (2 : Int32) f30 gR32 (6 : Int32) f122) = (0 : Int32))) (hc131 : ¬ ((own_f13 z121 (3 : Int32) f30 gR32 (6 : Int32) f122) = (0 : Int32))) (hc133 : (own_f13 z121 (4 : Int32) f30 gR32 (6 : Int32) f122) = (0 : Int32)) : (some (.int (0 : Int32)) : Option Value) = some (.int (own_f0 p0 p1 p2 p3 p4 gB23 gR32)) := by
  unfold own_f0
  extract_lets y_z1 y_z2 y_z6 y_z10 y_z11 y_z12 y_z13 y_f16 y_f17 y_f18 y_f20 y_f21 y_f22 y_f30 y_f31 y_z34 y_z41 y_z49 y_z55 y_z64 y_z74 y_z85 y_z91 y_f92 y_z97 y_f98 y_z103 y_f104 y_z109 y_f110 y_z115 y_f116 y_z121 y_f122
  have q_z1 : y_z1 = z1 := hz1
  clear_value y_z1
  subst q_z1
  have q_z2 : y_z2 = z2 := hz2
  clear_value y_z2
  subst q_z2
  have q_z6 : y_z6 = z6 := hz6
  clear_value y_z6
  subst q_z6
  have q_z10 : y_z10 = z10 := hz10
  clear_value y_z10
  subst q_z10
  have q_z11 : y_z11 = z11 := hz11
  clear_value y_z11
  subst q_z11
  have q_z12 : y_z12 = z12 := hz12
  clear_value y_z12
  subst q_z12
  have q_z13 : y_z13 = z13 := hz13
  clear_value y_z13
  subst q_z13
  have q_f16 : y_f16 = f16 := hf16.symm
  clear_value y_f16
  subst q_f16
  have q_f17 : y_f17 = f17 := hf17.symm
  clear_value y_f17
  subst q_f17
  have q_f18 : y_f18 = f18 := hf18.symm
  clear_value y_f18
  subst q_f18
  have q_f30 : y_f30 = f30 := hf30.symm
  clear_value y_f30
  subst q_f30
  have q_z34 : y_z34 = z34 := hz34
  clear_value y_z34
  subst q_z34
  have q_z41 : y_z41 = z41 := hz41
  clear_value y_z41
  subst q_z41
  have q_z49 : y_z49 = z49 := hz49
  clear_value y_z49
  subst q_z49
  have q_z55 : y_z55 = z55 := hz55
  clear_value y_z55
  subst q_z55
  have q_z64 : y_z64 = z64 := hz64
  clear_value y_z64
  subst q_z64
  have q_z74 : y_z74 = z74 := hz74
  clear_value y_z74
  subst q_z74
  have q_z85 : y_z85 = z85 := hz85
  clear_value y_z85
  subst q_z85
  have q_z91 : y_z91 = z91 := hz91
  clear_value y_z91
  subst q_z91
  have q_f92 : y_f92 = f92 := hf92.symm
  clear_value y_f92
  subst q_f92
  have q_z97 : y_z97 = z97 := hz97
  clear_value y_z97
  subst q_z97
  have q_f98 : y_f98 = f98 := hf98.symm
  clear_value y_f98
  subst q_f98
  have q_z103 : y_z103 = z103 := hz103
  clear_value y_z103
  subst q_z103
  have q_f104 : y_f104 = f104 := hf104.symm
  clear_value y_f104
  subst q_f104
  have q_z109 : y_z109 = z109 := hz109
  clear_value y_z109
  subst q_z109
  have q_f110 : y_f110 = f110 := hf110.symm
  clear_value y_f110
  subst q_f110
  have q_z115 : y_z115 = z115 := hz115
  clear_value y_z115
  subst q_z115
  have q_f116 : y_f116 = f116 := hf116.symm
  clear_value y_f116
  subst q_f116
  have q_z121 : y_z121 = z121 := hz121
  clear_value y_z121
  subst q_z121
  have q_f122 : y_f122 = f122 := hf122.symm
  clear_value y_f122
  subst q_f122
  first | (simp only [if_pos hc123, if_neg hc125, if_neg hc127, if_neg hc129, if_neg hc131, if_pos hc133]; done) | (simp only [if_pos hc123, if_neg hc125, if_neg hc127, if_neg hc129, if_neg hc131, if_pos hc133]; rfl)
theorem own_lf_own_f0_6 {p0 : Int32} {p1 : Int32} {p2 : Int32} {p3 : Int32} {p4 : Int32} {gB23 : Nat → Int32} {gR32 : Nat → Int32} {z1 : Int32} {z2 : Int32} {z6 : Int32} {z10 : Int32} {z11 : Int32} {z12 : Int32} {z13 : Int32} {f16 : Nat → Int32} {f17 : Nat → Int32} {f18 : Nat → Int32} {f30 : Int32} {z34 : Int32} {z41 : Int32} {z49 : Int32} {z55 : Int32} {z64 : Int32} {z74 : Int32} {z85 : Int32} {z91 : Int32} {f92 : Nat → Int32} {z97 : Int32} {f98 : Nat → Int32} {z103 : Int32} {f104 : Nat → Int32} {z109 : Int32} {f110 : Nat → Int32} {z115 : Int32} {f116 : Nat → Int32} {z121 : Int32} {f122 : Nat → Int32} (hz1 : ((p0 &&& (7 : Int32)) + ((own_iushr p0 (3 : Int32)) &&& (3 : Int32))) = z1) (hz2 : (z1 + ((own_iushr p0 (5 : Int32)) &&& (3 : Int32))) = z2) (hz6 : (if ((own_iushr p0 (7 : Int32)) &&& (1 : Int32)) = (0 : Int32) then (0 : Int32) else (1 : Int32)) = z6) (hz10 : (if ((own_iushr p0 (8 : Int32)) &&& (1 : Int32)) = (0 : Int32) then (0 : Int32) else (1 : Int32)) = z10) (hz11 : ((own_iushr p1 (4 : Int32)) &&& (15 : Int32)) = z11) (hz12 : ((own_iushr p1 (8 : Int32)) &&& (15 : Int32)) = z12) (hz13 : ((own_iushr p1 (12 : Int32)) &&& (15 : Int32)) = z13) (hf16 : f16 = (own_set (fun _ => (0 : Int32)) (0 : Int32) (p0 &&& (7 : Int32)))) (hf17 : f17 = (own_set f16 (1 : Int32) z1)) (hf18 : f18 = (own_set f17 (2 : Int32) z2)) (hf30 : f30 = (if z10 = (0 : Int32) then (own_find (p1 &&& (15 : Int32)) z11 (own_f3 f18) ((own_iushr (f18 2) (own_f3 f18)) + (2 : Int32)) gB23 f18 (z6 &&& 1) ((1 : Int32) + (1 : Int32)) (0 : Int32) (fun _ => (0 : Int32)) (fun _ => (0 : Int32))).1 else (own_find z12 z13 (own_f3 f18) ((own_iushr (f18 2) (own_f3 f18)) + (2 : Int32)) gB23 f18 (z6 &&& 1) ((1 : Int32) + (1 : Int32)) (own_find (p1 &&& (15 : Int32)) z11 (own_f3 f18) ((own_iushr (f18 2) (own_f3 f18)) + (2 : Int32)) gB23 f18 (z6 &&& 1) ((1 : Int32) + (1 : Int32)) (0 : Int32) (fun _ => (0 : Int32)) (fun _ => (0 : Int32))).1 (own_find (p1 &&& (15 : Int32)) z11 (own_f3 f18) ((own_iushr (f18 2) (own_f3 f18)) + (2 : Int32)) gB23 f18 (z6 &&& 1) ((1 : Int32) + (1 : Int32)) (0 : Int32) (fun _ => (0 : Int32)) (fun _ => (0 : Int32))).2.1 (own_find (p1 &&& (15 : Int32)) z11 (own_f3 f18) ((own_iushr (f18 2) (own_f3 f18)) + (2 : Int32)) gB23 f18 (z6 &&& 1) ((1 : Int32) + (1 : Int32)) (0 : Int32) (fun _ => (0 : Int32)) (fun _ => (0 : Int32))).2.2).1)) (hz34 : (own_f12 (p0 &&& (7 : Int32)) (p1 &&& (15 : Int32)) z11) = z34) (hz41 : (if (own_f12 z1 (p1 &&& (15 : Int32)) z11) = (0 : Int32) then (0 : Int32) else (if z6 = (0 : Int32) then (1 : Int32) else (if z34 = (0 : Int32) then (1 : Int32) else (0 : Int32)))) = z41) (hz49 : (if (own_f12 z2 (p1 &&& (15 : Int32)) z11) = (0 : Int32) then (0 : Int32) else (if z6 = (0 : Int32) then (1 : Int32) else (if z34 = (0 : Int32) then (if z41 = (0 : Int32) then (1 : Int32) else (0 : Int32)) else (0 : Int32)))) = z49) (hz55 : (if z34 = (0 : Int32) then (if z41 = (0 : Int32) then (if z49 = (0 : Int32) then (0 : Int32) else (1 : Int32)) else (1 : Int32)) else (1 : Int32)) = z55) (hz64 : (if z10 = (0 : Int32) then (0 : Int32) else (if (own_f12 (p0 &&& (7 : Int32)) z12 z13) = (0 : Int32) then (0 : Int32) else (if z34 = (0 : Int32) then (if z6 = (0 : Int32) then (1 : Int32) else (if z55 = (0 : Int32) then (1 : Int32) else (0 : Int32))) else (0 : Int32)))) = z64) (hz74 : (if z10 = (0 : Int32) then (0 : Int32) else (if (own_f12 z1 z12 z13) = (0 : Int32) then (0 : Int32) else (if z41 = (0 : Int32) then (if z6 = (0 : Int32) then (1 : Int32) else (if z55 = (0 : Int32) then (if z64 = (0 : Int32) then (1 : Int32) else (0 : Int32)) else (0 : Int32))) else (0 : Int32)))) = z74) (hz85 : (if z10 = (0 : Int32) then (0 : Int32) else (if (own_f12 z2 z12 z13) = (0 : Int32) then (0 : Int32) else (if z49 = (0 : Int32) then (if z6 = (0 : Int32) then (1 : Int32) else (if z55 = (0 : Int32) then (if z64 = (0 : Int32) then (if z74 = (0 : Int32) then (1 : Int32) else (0 : Int32)) else (0 : Int32)) else (0 : Int32))) else (0 : Int32)))) = z85) (hz91 : (if z34 = (0 : Int32) then (0 : Int32) else (1 : Int32)) = z91) (hf92 : f92 = (if z34 = (0 : Int32) then (fun _ => (0 : Int32)) else (own_set (fun _ => (0 : Int32)) (0 : Int32) p2))) (hz97 : (if z41 = (0 : Int32) then z91 else (z91 + (1 : Int32))) = z97) (hf98 : f98 = (if z41 = (0 : Int32) then f92 else (own_set f92 z91 p3))) (hz103 : (if z49 = (0 : Int32) then z97 else (z97 + (1 : Int32))) = z103) (hf104 : f104 = (if z49 = (0 : Int32) then f98 else (own_set f98 z97 p4))) (hz109 : (if z64 = (0 : Int32) then z103 else (z103 + (1 : Int32))) = z109) (hf110 : f110 = (if z64 = (0 : Int32) then f104 else (own_set f104 z103 p2))) (hz115 : (if z74 = (0 : Int32) then z109 else (z109 + (1 : Int32))) = z115) (hf116 : f116 = (if z74 = (0 : Int32) then f110 else (own_set f110 z109 p3))) (hz121 : (if z85 = (0 : Int32) then z115 else (z115 + (1 : Int32))) = z121) (hf122 : f122 = (if z85 = (0 : Int32) then f116 else (own_set f116 z115 p4))) (hc123 : f30 = z121) (hc125 : ¬ ((own_f13 z121 (0 : Int32) f30 gR32 (6 : Int32) f122) = (0 : Int32))) (hc127 : ¬ ((own_f13 z121 (1 : Int32) f30 gR32 (6 : Int32) f122) = (0 : Int32))) (hc129 : ¬ ((own_f13 z121 (2 : Int32) f30 gR32 (6 : Int32) f122) = (0 : Int32))) (hc131 : ¬ ((own_f13 z121 (3 : Int32) f30 gR32 (6 : Int32) f122) = (0 : Int32))) (hc133 : ¬ ((own_f13 z121 (4 : Int32) f30 gR32 (6 : Int32) f122) = (0 : Int32))) (hc135 : (own_f13 z121 (5 : Int32) f30 gR32 (6 : Int32) f122) = (0 : Int32)) : (some (.int (0 : Int32)) : Option Value) = some (.int (own_f0 p0 p1 p2 p3 p4 gB23 gR32)) := by
  unfold own_f0
  extract_lets y_z1 y_z2 y_z6 y_z10 y_z11 y_z12 y_z13 y_f16 y_f17 y_f18 y_f20 y_f21 y_f22 y_f30 y_f31 y_z34 y_z41 y_z49 y_z55 y_z64 y_z74 y_z85 y_z91 y_f92 y_z97 y_f98 y_z103 y_f104 y_z109 y_f110 y_z115 y_f116 y_z121 y_f122
  have q_z1 : y_z1 = z1 := hz1
  clear_value y_z1
  subst q_z1
  have q_z2 : y_z2 = z2 := hz2
  clear_value y_z2
  subst q_z2
  have q_z6 : y_z6 = z6 := hz6
  clear_value y_z6
  subst q_z6
  have q_z10 : y_z10 = z10 := hz10
  clear_value y_z10
  subst q_z10
  have q_z11 : y_z11 = z11 := hz11
  clear_value y_z11
  subst q_z11
  have q_z12 : y_z12 = z12 := hz12
  clear_value y_z12
  subst q_z12
  have q_z13 : y_z13 = z13 := hz13
  clear_value y_z13
  subst q_z13
  have q_f16 : y_f16 = f16 := hf16.symm
  clear_value y_f16
  subst q_f16
  have q_f17 : y_f17 = f17 := hf17.symm
  clear_value y_f17
  subst q_f17
  have q_f18 : y_f18 = f18 := hf18.symm
  clear_value y_f18
  subst q_f18
  have q_f30 : y_f30 = f30 := hf30.symm
  clear_value y_f30
  subst q_f30
  have q_z34 : y_z34 = z34 := hz34
  clear_value y_z34
  subst q_z34
  have q_z41 : y_z41 = z41 := hz41
  clear_value y_z41
  subst q_z41
  have q_z49 : y_z49 = z49 := hz49
  clear_value y_z49
  subst q_z49
  have q_z55 : y_z55 = z55 := hz55
  clear_value y_z55
  subst q_z55
  have q_z64 : y_z64 = z64 := hz64
  clear_value y_z64
  subst q_z64
  have q_z74 : y_z74 = z74 := hz74
  clear_value y_z74
  subst q_z74
  have q_z85 : y_z85 = z85 := hz85
  clear_value y_z85
  subst q_z85
  have q_z91 : y_z91 = z91 := hz91
  clear_value y_z91
  subst q_z91
  have q_f92 : y_f92 = f92 := hf92.symm
  clear_value y_f92
  subst q_f92
  have q_z97 : y_z97 = z97 := hz97
  clear_value y_z97
  subst q_z97
  have q_f98 : y_f98 = f98 := hf98.symm
  clear_value y_f98
  subst q_f98
  have q_z103 : y_z103 = z103 := hz103
  clear_value y_z103
  subst q_z103
  have q_f104 : y_f104 = f104 := hf104.symm
  clear_value y_f104
  subst q_f104
  have q_z109 : y_z109 = z109 := hz109
  clear_value y_z109
  subst q_z109
  have q_f110 : y_f110 = f110 := hf110.symm
  clear_value y_f110
  subst q_f110
  have q_z115 : y_z115 = z115 := hz115
  clear_value y_z115
  subst q_z115
  have q_f116 : y_f116 = f116 := hf116.symm
  clear_value y_f116
  subst q_f116
  have q_z121 : y_z121 = z121 := hz121
  clear_value y_z121
  subst q_z121
  have q_f122 : y_f122 = f122 := hf122.symm
  clear_value y_f122
  subst q_f122
  first | (simp only [if_pos hc123, if_neg hc125, if_neg hc127, if_neg hc129, if_neg hc131, if_neg hc133, if_pos hc135]; done) | (simp only [if_pos hc123, if_neg hc125, if_neg hc127, if_neg hc129, if_neg hc131, if_neg hc133, if_pos hc135]; rfl)
theorem own_lf_own_f0_7 {p0 : Int32} {p1 : Int32} {p2 : Int32} {p3 : Int32} {p4 : Int32} {gB23 : Nat → Int32} {gR32 : Nat → Int32} {z1 : Int32} {z2 : Int32} {z6 : Int32} {z10 : Int32} {z11 : Int32} {z12 : Int32} {z13 : Int32} {f16 : Nat → Int32} {f17 : Nat → Int32} {f18 : Nat → Int32} {f30 : Int32} {z34 : Int32} {z41 : Int32} {z49 : Int32} {z55 : Int32} {z64 : Int32} {z74 : Int32} {z85 : Int32} {z91 : Int32} {f92 : Nat → Int32} {z97 : Int32} {f98 : Nat → Int32} {z103 : Int32} {f104 : Nat → Int32} {z109 : Int32} {f110 : Nat → Int32} {z115 : Int32} {f116 : Nat → Int32} {z121 : Int32} {f122 : Nat → Int32} (hz1 : ((p0 &&& (7 : Int32)) + ((own_iushr p0 (3 : Int32)) &&& (3 : Int32))) = z1) (hz2 : (z1 + ((own_iushr p0 (5 : Int32)) &&& (3 : Int32))) = z2) (hz6 : (if ((own_iushr p0 (7 : Int32)) &&& (1 : Int32)) = (0 : Int32) then (0 : Int32) else (1 : Int32)) = z6) (hz10 : (if ((own_iushr p0 (8 : Int32)) &&& (1 : Int32)) = (0 : Int32) then (0 : Int32) else (1 : Int32)) = z10) (hz11 : ((own_iushr p1 (4 : Int32)) &&& (15 : Int32)) = z11) (hz12 : ((own_iushr p1 (8 : Int32)) &&& (15 : Int32)) = z12) (hz13 : ((own_iushr p1 (12 : Int32)) &&& (15 : Int32)) = z13) (hf16 : f16 = (own_set (fun _ => (0 : Int32)) (0 : Int32) (p0 &&& (7 : Int32)))) (hf17 : f17 = (own_set f16 (1 : Int32) z1)) (hf18 : f18 = (own_set f17 (2 : Int32) z2)) (hf30 : f30 = (if z10 = (0 : Int32) then (own_find (p1 &&& (15 : Int32)) z11 (own_f3 f18) ((own_iushr (f18 2) (own_f3 f18)) + (2 : Int32)) gB23 f18 (z6 &&& 1) ((1 : Int32) + (1 : Int32)) (0 : Int32) (fun _ => (0 : Int32)) (fun _ => (0 : Int32))).1 else (own_find z12 z13 (own_f3 f18) ((own_iushr (f18 2) (own_f3 f18)) + (2 : Int32)) gB23 f18 (z6 &&& 1) ((1 : Int32) + (1 : Int32)) (own_find (p1 &&& (15 : Int32)) z11 (own_f3 f18) ((own_iushr (f18 2) (own_f3 f18)) + (2 : Int32)) gB23 f18 (z6 &&& 1) ((1 : Int32) + (1 : Int32)) (0 : Int32) (fun _ => (0 : Int32)) (fun _ => (0 : Int32))).1 (own_find (p1 &&& (15 : Int32)) z11 (own_f3 f18) ((own_iushr (f18 2) (own_f3 f18)) + (2 : Int32)) gB23 f18 (z6 &&& 1) ((1 : Int32) + (1 : Int32)) (0 : Int32) (fun _ => (0 : Int32)) (fun _ => (0 : Int32))).2.1 (own_find (p1 &&& (15 : Int32)) z11 (own_f3 f18) ((own_iushr (f18 2) (own_f3 f18)) + (2 : Int32)) gB23 f18 (z6 &&& 1) ((1 : Int32) + (1 : Int32)) (0 : Int32) (fun _ => (0 : Int32)) (fun _ => (0 : Int32))).2.2).1)) (hz34 : (own_f12 (p0 &&& (7 : Int32)) (p1 &&& (15 : Int32)) z11) = z34) (hz41 : (if (own_f12 z1 (p1 &&& (15 : Int32)) z11) = (0 : Int32) then (0 : Int32) else (if z6 = (0 : Int32) then (1 : Int32) else (if z34 = (0 : Int32) then (1 : Int32) else (0 : Int32)))) = z41) (hz49 : (if (own_f12 z2 (p1 &&& (15 : Int32)) z11) = (0 : Int32) then (0 : Int32) else (if z6 = (0 : Int32) then (1 : Int32) else (if z34 = (0 : Int32) then (if z41 = (0 : Int32) then (1 : Int32) else (0 : Int32)) else (0 : Int32)))) = z49) (hz55 : (if z34 = (0 : Int32) then (if z41 = (0 : Int32) then (if z49 = (0 : Int32) then (0 : Int32) else (1 : Int32)) else (1 : Int32)) else (1 : Int32)) = z55) (hz64 : (if z10 = (0 : Int32) then (0 : Int32) else (if (own_f12 (p0 &&& (7 : Int32)) z12 z13) = (0 : Int32) then (0 : Int32) else (if z34 = (0 : Int32) then (if z6 = (0 : Int32) then (1 : Int32) else (if z55 = (0 : Int32) then (1 : Int32) else (0 : Int32))) else (0 : Int32)))) = z64) (hz74 : (if z10 = (0 : Int32) then (0 : Int32) else (if (own_f12 z1 z12 z13) = (0 : Int32) then (0 : Int32) else (if z41 = (0 : Int32) then (if z6 = (0 : Int32) then (1 : Int32) else (if z55 = (0 : Int32) then (if z64 = (0 : Int32) then (1 : Int32) else (0 : Int32)) else (0 : Int32))) else (0 : Int32)))) = z74) (hz85 : (if z10 = (0 : Int32) then (0 : Int32) else (if (own_f12 z2 z12 z13) = (0 : Int32) then (0 : Int32) else (if z49 = (0 : Int32) then (if z6 = (0 : Int32) then (1 : Int32) else (if z55 = (0 : Int32) then (if z64 = (0 : Int32) then (if z74 = (0 : Int32) then (1 : Int32) else (0 : Int32)) else (0 : Int32)) else (0 : Int32))) else (0 : Int32)))) = z85) (hz91 : (if z34 = (0 : Int32) then (0 : Int32) else (1 : Int32)) = z91) (hf92 : f92 = (if z34 = (0 : Int32) then (fun _ => (0 : Int32)) else (own_set (fun _ => (0 : Int32)) (0 : Int32) p2))) (hz97 : (if z41 = (0 : Int32) then z91 else (z91 + (1 : Int32))) = z97) (hf98 : f98 = (if z41 = (0 : Int32) then f92 else (own_set f92 z91 p3))) (hz103 : (if z49 = (0 : Int32) then z97 else (z97 + (1 : Int32))) = z103) (hf104 : f104 = (if z49 = (0 : Int32) then f98 else (own_set f98 z97 p4))) (hz109 : (if z64 = (0 : Int32) then z103 else (z103 + (1 : Int32))) = z109) (hf110 : f110 = (if z64 = (0 : Int32) then f104 else (own_set f104 z103 p2))) (hz115 : (if z74 = (0 : Int32) then z109 else (z109 + (1 : Int32))) = z115) (hf116 : f116 = (if z74 = (0 : Int32) then f110 else (own_set f110 z109 p3))) (hz121 : (if z85 = (0 : Int32) then z115 else (z115 + (1 : Int32))) = z121) (hf122 : f122 = (if z85 = (0 : Int32) then f116 else (own_set f116 z115 p4))) (hc123 : f30 = z121) (hc125 : ¬ ((own_f13 z121 (0 : Int32) f30 gR32 (6 : Int32) f122) = (0 : Int32))) (hc127 : ¬ ((own_f13 z121 (1 : Int32) f30 gR32 (6 : Int32) f122) = (0 : Int32))) (hc129 : ¬ ((own_f13 z121 (2 : Int32) f30 gR32 (6 : Int32) f122) = (0 : Int32))) (hc131 : ¬ ((own_f13 z121 (3 : Int32) f30 gR32 (6 : Int32) f122) = (0 : Int32))) (hc133 : ¬ ((own_f13 z121 (4 : Int32) f30 gR32 (6 : Int32) f122) = (0 : Int32))) (hc135 : ¬ ((own_f13 z121 (5 : Int32) f30 gR32 (6 : Int32) f122) = (0 : Int32))) : (some (.int (1 : Int32)) : Option Value) = some (.int (own_f0 p0 p1 p2 p3 p4 gB23 gR32)) := by
  unfold own_f0
  extract_lets y_z1 y_z2 y_z6 y_z10 y_z11 y_z12 y_z13 y_f16 y_f17 y_f18 y_f20 y_f21 y_f22 y_f30 y_f31 y_z34 y_z41 y_z49 y_z55 y_z64 y_z74 y_z85 y_z91 y_f92 y_z97 y_f98 y_z103 y_f104 y_z109 y_f110 y_z115 y_f116 y_z121 y_f122
  have q_z1 : y_z1 = z1 := hz1
  clear_value y_z1
  subst q_z1
  have q_z2 : y_z2 = z2 := hz2
  clear_value y_z2
  subst q_z2
  have q_z6 : y_z6 = z6 := hz6
  clear_value y_z6
  subst q_z6
  have q_z10 : y_z10 = z10 := hz10
  clear_value y_z10
  subst q_z10
  have q_z11 : y_z11 = z11 := hz11
  clear_value y_z11
  subst q_z11
  have q_z12 : y_z12 = z12 := hz12
  clear_value y_z12
  subst q_z12
  have q_z13 : y_z13 = z13 := hz13
  clear_value y_z13
  subst q_z13
  have q_f16 : y_f16 = f16 := hf16.symm
  clear_value y_f16
  subst q_f16
  have q_f17 : y_f17 = f17 := hf17.symm
  clear_value y_f17
  subst q_f17
  have q_f18 : y_f18 = f18 := hf18.symm
  clear_value y_f18
  subst q_f18
  have q_f30 : y_f30 = f30 := hf30.symm
  clear_value y_f30
  subst q_f30
  have q_z34 : y_z34 = z34 := hz34
  clear_value y_z34
  subst q_z34
  have q_z41 : y_z41 = z41 := hz41
  clear_value y_z41
  subst q_z41
  have q_z49 : y_z49 = z49 := hz49
  clear_value y_z49
  subst q_z49
  have q_z55 : y_z55 = z55 := hz55
  clear_value y_z55
  subst q_z55
  have q_z64 : y_z64 = z64 := hz64
  clear_value y_z64
  subst q_z64
  have q_z74 : y_z74 = z74 := hz74
  clear_value y_z74
  subst q_z74
  have q_z85 : y_z85 = z85 := hz85
  clear_value y_z85
  subst q_z85
  have q_z91 : y_z91 = z91 := hz91
  clear_value y_z91
  subst q_z91
  have q_f92 : y_f92 = f92 := hf92.symm
  clear_value y_f92
  subst q_f92
  have q_z97 : y_z97 = z97 := hz97
  clear_value y_z97
  subst q_z97
  have q_f98 : y_f98 = f98 := hf98.symm
  clear_value y_f98
  subst q_f98
  have q_z103 : y_z103 = z103 := hz103
  clear_value y_z103
  subst q_z103
  have q_f104 : y_f104 = f104 := hf104.symm
  clear_value y_f104
  subst q_f104
  have q_z109 : y_z109 = z109 := hz109
  clear_value y_z109
  subst q_z109
  have q_f110 : y_f110 = f110 := hf110.symm
  clear_value y_f110
  subst q_f110
  have q_z115 : y_z115 = z115 := hz115
  clear_value y_z115
  subst q_z115
  have q_f116 : y_f116 = f116 := hf116.symm
  clear_value y_f116
  subst q_f116
  have q_z121 : y_z121 = z121 := hz121
  clear_value y_z121
  subst q_z121
  have q_f122 : y_f122 = f122 := hf122.symm
  clear_value y_f122
  subst q_f122
  first | (simp only [if_pos hc123, if_neg hc125, if_neg hc127, if_neg hc129, if_neg hc131, if_neg hc133, if_neg hc135]; done) | (simp only [if_pos hc123, if_neg hc125, if_neg hc127, if_neg hc129, if_neg hc131, if_neg hc133, if_neg hc135]; rfl)
theorem own_lf_own_f0_8 {p0 : Int32} {p1 : Int32} {p2 : Int32} {p3 : Int32} {p4 : Int32} {gB23 : Nat → Int32} {gR32 : Nat → Int32} {z1 : Int32} {z2 : Int32} {z6 : Int32} {z10 : Int32} {z11 : Int32} {z12 : Int32} {z13 : Int32} {f16 : Nat → Int32} {f17 : Nat → Int32} {f18 : Nat → Int32} {f30 : Int32} {z34 : Int32} {z41 : Int32} {z49 : Int32} {z55 : Int32} {z64 : Int32} {z74 : Int32} {z85 : Int32} {z91 : Int32} {z97 : Int32} {z103 : Int32} {z109 : Int32} {z115 : Int32} {z121 : Int32} (hz1 : ((p0 &&& (7 : Int32)) + ((own_iushr p0 (3 : Int32)) &&& (3 : Int32))) = z1) (hz2 : (z1 + ((own_iushr p0 (5 : Int32)) &&& (3 : Int32))) = z2) (hz6 : (if ((own_iushr p0 (7 : Int32)) &&& (1 : Int32)) = (0 : Int32) then (0 : Int32) else (1 : Int32)) = z6) (hz10 : (if ((own_iushr p0 (8 : Int32)) &&& (1 : Int32)) = (0 : Int32) then (0 : Int32) else (1 : Int32)) = z10) (hz11 : ((own_iushr p1 (4 : Int32)) &&& (15 : Int32)) = z11) (hz12 : ((own_iushr p1 (8 : Int32)) &&& (15 : Int32)) = z12) (hz13 : ((own_iushr p1 (12 : Int32)) &&& (15 : Int32)) = z13) (hf16 : f16 = (own_set (fun _ => (0 : Int32)) (0 : Int32) (p0 &&& (7 : Int32)))) (hf17 : f17 = (own_set f16 (1 : Int32) z1)) (hf18 : f18 = (own_set f17 (2 : Int32) z2)) (hf30 : f30 = (if z10 = (0 : Int32) then (own_find (p1 &&& (15 : Int32)) z11 (own_f3 f18) ((own_iushr (f18 2) (own_f3 f18)) + (2 : Int32)) gB23 f18 (z6 &&& 1) ((1 : Int32) + (1 : Int32)) (0 : Int32) (fun _ => (0 : Int32)) (fun _ => (0 : Int32))).1 else (own_find z12 z13 (own_f3 f18) ((own_iushr (f18 2) (own_f3 f18)) + (2 : Int32)) gB23 f18 (z6 &&& 1) ((1 : Int32) + (1 : Int32)) (own_find (p1 &&& (15 : Int32)) z11 (own_f3 f18) ((own_iushr (f18 2) (own_f3 f18)) + (2 : Int32)) gB23 f18 (z6 &&& 1) ((1 : Int32) + (1 : Int32)) (0 : Int32) (fun _ => (0 : Int32)) (fun _ => (0 : Int32))).1 (own_find (p1 &&& (15 : Int32)) z11 (own_f3 f18) ((own_iushr (f18 2) (own_f3 f18)) + (2 : Int32)) gB23 f18 (z6 &&& 1) ((1 : Int32) + (1 : Int32)) (0 : Int32) (fun _ => (0 : Int32)) (fun _ => (0 : Int32))).2.1 (own_find (p1 &&& (15 : Int32)) z11 (own_f3 f18) ((own_iushr (f18 2) (own_f3 f18)) + (2 : Int32)) gB23 f18 (z6 &&& 1) ((1 : Int32) + (1 : Int32)) (0 : Int32) (fun _ => (0 : Int32)) (fun _ => (0 : Int32))).2.2).1)) (hz34 : (own_f12 (p0 &&& (7 : Int32)) (p1 &&& (15 : Int32)) z11) = z34) (hz41 : (if (own_f12 z1 (p1 &&& (15 : Int32)) z11) = (0 : Int32) then (0 : Int32) else (if z6 = (0 : Int32) then (1 : Int32) else (if z34 = (0 : Int32) then (1 : Int32) else (0 : Int32)))) = z41) (hz49 : (if (own_f12 z2 (p1 &&& (15 : Int32)) z11) = (0 : Int32) then (0 : Int32) else (if z6 = (0 : Int32) then (1 : Int32) else (if z34 = (0 : Int32) then (if z41 = (0 : Int32) then (1 : Int32) else (0 : Int32)) else (0 : Int32)))) = z49) (hz55 : (if z34 = (0 : Int32) then (if z41 = (0 : Int32) then (if z49 = (0 : Int32) then (0 : Int32) else (1 : Int32)) else (1 : Int32)) else (1 : Int32)) = z55) (hz64 : (if z10 = (0 : Int32) then (0 : Int32) else (if (own_f12 (p0 &&& (7 : Int32)) z12 z13) = (0 : Int32) then (0 : Int32) else (if z34 = (0 : Int32) then (if z6 = (0 : Int32) then (1 : Int32) else (if z55 = (0 : Int32) then (1 : Int32) else (0 : Int32))) else (0 : Int32)))) = z64) (hz74 : (if z10 = (0 : Int32) then (0 : Int32) else (if (own_f12 z1 z12 z13) = (0 : Int32) then (0 : Int32) else (if z41 = (0 : Int32) then (if z6 = (0 : Int32) then (1 : Int32) else (if z55 = (0 : Int32) then (if z64 = (0 : Int32) then (1 : Int32) else (0 : Int32)) else (0 : Int32))) else (0 : Int32)))) = z74) (hz85 : (if z10 = (0 : Int32) then (0 : Int32) else (if (own_f12 z2 z12 z13) = (0 : Int32) then (0 : Int32) else (if z49 = (0 : Int32) then (if z6 = (0 : Int32) then (1 : Int32) else (if z55 = (0 : Int32) then (if z64 = (0 : Int32) then (if z74 = (0 : Int32) then (1 : Int32) else (0 : Int32)) else (0 : Int32)) else (0 : Int32))) else (0 : Int32)))) = z85) (hz91 : (if z34 = (0 : Int32) then (0 : Int32) else (1 : Int32)) = z91) (hz97 : (if z41 = (0 : Int32) then z91 else (z91 + (1 : Int32))) = z97) (hz103 : (if z49 = (0 : Int32) then z97 else (z97 + (1 : Int32))) = z103) (hz109 : (if z64 = (0 : Int32) then z103 else (z103 + (1 : Int32))) = z109) (hz115 : (if z74 = (0 : Int32) then z109 else (z109 + (1 : Int32))) = z115) (hz121 : (if z85 = (0 : Int32) then z115 else (z115 + (1 : Int32))) = z121) (hc123 : ¬ (f30 = z121)) : (some (.int (0 : Int32)) : Option Value) = some (.int (own_f0 p0 p1 p2 p3 p4 gB23 gR32)) := by
  unfold own_f0
  extract_lets y_z1 y_z2 y_z6 y_z10 y_z11 y_z12 y_z13 y_f16 y_f17 y_f18 y_f20 y_f21 y_f22 y_f30 y_f31 y_z34 y_z41 y_z49 y_z55 y_z64 y_z74 y_z85 y_z91 y_f92 y_z97 y_f98 y_z103 y_f104 y_z109 y_f110 y_z115 y_f116 y_z121 y_f122
  have q_z1 : y_z1 = z1 := hz1
  clear_value y_z1
  subst q_z1
  have q_z2 : y_z2 = z2 := hz2
  clear_value y_z2
  subst q_z2
  have q_z6 : y_z6 = z6 := hz6
  clear_value y_z6
  subst q_z6
  have q_z10 : y_z10 = z10 := hz10
  clear_value y_z10
  subst q_z10
  have q_z11 : y_z11 = z11 := hz11
  clear_value y_z11
  subst q_z11
  have q_z12 : y_z12 = z12 := hz12
  clear_value y_z12
  subst q_z12
  have q_z13 : y_z13 = z13 := hz13
  clear_value y_z13
  subst q_z13
  have q_f16 : y_f16 = f16 := hf16.symm
  clear_value y_f16
  subst q_f16
  have q_f17 : y_f17 = f17 := hf17.symm
  clear_value y_f17
  subst q_f17
  have q_f18 : y_f18 = f18 := hf18.symm
  clear_value y_f18
  subst q_f18
  have q_f30 : y_f30 = f30 := hf30.symm
  clear_value y_f30
  subst q_f30
  have q_z34 : y_z34 = z34 := hz34
  clear_value y_z34
  subst q_z34
  have q_z41 : y_z41 = z41 := hz41
  clear_value y_z41
  subst q_z41
  have q_z49 : y_z49 = z49 := hz49
  clear_value y_z49
  subst q_z49
  have q_z55 : y_z55 = z55 := hz55
  clear_value y_z55
  subst q_z55
  have q_z64 : y_z64 = z64 := hz64
  clear_value y_z64
  subst q_z64
  have q_z74 : y_z74 = z74 := hz74
  clear_value y_z74
  subst q_z74
  have q_z85 : y_z85 = z85 := hz85
  clear_value y_z85
  subst q_z85
  have q_z91 : y_z91 = z91 := hz91
  clear_value y_z91
  subst q_z91
  have q_z97 : y_z97 = z97 := hz97
  clear_value y_z97
  subst q_z97
  have q_z103 : y_z103 = z103 := hz103
  clear_value y_z103
  subst q_z103
  have q_z109 : y_z109 = z109 := hz109
  clear_value y_z109
  subst q_z109
  have q_z115 : y_z115 = z115 := hz115
  clear_value y_z115
  subst q_z115
  have q_z121 : y_z121 = z121 := hz121
  clear_value y_z121
  subst q_z121
  first | (simp only [if_neg hc123]; done) | (simp only [if_neg hc123]; rfl)
set_option maxRecDepth 65536 in
set_option maxHeartbeats 40000000 in
theorem rm0 (l : Launch) (Z : State) (a0 : Array Value) (hw : ∀ d ∈ tables_1, d.before a0 Z = true) (ws : List Jvm.Cond) (p0 : Int32) (p1 : Int32) (p2 : Int32) (p3 : Int32) (p4 : Int32) (h0 : Heap) (n0 : Nat) (Z0 : n0 ≤ h0.size) :
    MetFree l x (head1 (Jvm.Cond.code x code maxLocals ret :: ws) room_1) (fun a U => a = #[(.int p0), (.int p1), (.int p2), (.int p3), (.int p4)] ∧ Z.Warmed39 U.vm ∧ U.heap = h0) (fun _ _ _ _ _ => True) (fun _ U o U' => ∃ v L, o = .returned v ∧ own_QL (some (.int (1 : Int32))) n0 v U'.heap L ∧ FrameEnd U o U' L 32 192) := by
  refine MetFree.of_bodySF (plainFor_of_name pn_0) hisR ?_
  intro p e s m args below meth c s₁ Bd hml0 hP hK
  obtain ⟨rfl, hZ, hh⟩ := hP
  have hx := Bd.exec
  have hby := Bd.bytes
  have hml : c.maxLocals = 25 := hml0
  have hown : s.vm.findClass "com/example/reachability/reachability/CandidateListFoundElementsPinLaw" = some m.cls := findClass_of_methodNamed Bd.named
  have hnm := (name_of_methodNamed Bd.named Bd.method).1
  have hlk : meth.locks = false := BodyLoose.notSynchronized Bd
  have X0 : Stand p l e room_1 s m #[(.int p0), (.int p1), (.int p2), (.int p3), (.int p4)] below meth c s₁ [] 0 0 := Stand.of_body Bd
  have e0 : s₁.heap = h0 := by rw [← hh, Bd.state]; rfl
  have N0 := Fr.nil n0
  show own_Fin p.tables e below s (own_QL (some (.int (1 : Int32))) n0) 32 192 (s₁.setTop (entryFrame m #[(.int p0), (.int p1), (.int p2), (.int p3), (.int p4)] maxLocals))
  rw [ef_0]
  show own_Fin _ _ _ _ _ _ _ (s₁.setTop (mkF m 0 #[.val (.int p0), .val (.int p1), .val (.int p2), .val (.int p3), .val (.int p4), .unset, .unset, .unset, .unset, .unset, .unset, .unset, .unset, .unset, .unset, .unset, .unset, .unset, .unset, .unset, .unset, .unset, .unset, .unset, .unset] []))
  refine own_go (fun _ k => XS.iloadN X0.here hx rfl (hb hby at_0) rfl k) ?_
  refine own_go (fun _ k => XS.bipush X0.here hx rfl (hb hby at_1) k) ?_
  refine own_go (fun _ k => XS.iand X0.here hx rfl (hb hby at_3) rfl k) ?_
  show own_Fin _ _ _ _ _ _ _ (s₁.setTop (mkF m 4 #[.val (.int p0), .val (.int p1), .val (.int p2), .val (.int p3), .val (.int p4), .unset, .unset, .unset, .unset, .unset, .unset, .unset, .unset, .unset, .unset, .unset, .unset, .unset, .unset, .unset, .unset, .unset, .unset, .unset, .unset] [(.int (p0 &&& (7 : Int32)))]))
  refine own_go (fun _ k => XS.istore X0.here hx rfl (hb hby at_4) rfl (l' := #[.val (.int p0), .val (.int p1), .val (.int p2), .val (.int p3), .val (.int p4), .val (.int (p0 &&& (7 : Int32))), .unset, .unset, .unset, .unset, .unset, .unset, .unset, .unset, .unset, .unset, .unset, .unset, .unset, .unset, .unset, .unset, .unset, .unset, .unset]) rfl k) ?_
  show own_Fin _ _ _ _ _ _ _ (s₁.setTop (mkF m 6 #[.val (.int p0), .val (.int p1), .val (.int p2), .val (.int p3), .val (.int p4), .val (.int (p0 &&& (7 : Int32))), .unset, .unset, .unset, .unset, .unset, .unset, .unset, .unset, .unset, .unset, .unset, .unset, .unset, .unset, .unset, .unset, .unset, .unset, .unset] []))
  refine own_go (fun _ k => XS.iload X0.here hx rfl (hb hby at_6) rfl k) ?_
  refine own_go (fun _ k => XS.iloadN X0.here hx rfl (hb hby at_8) rfl k) ?_
  refine own_go (fun _ k => XS.iconst X0.here hx rfl (hb hby at_9) k) ?_
  refine own_go (fun _ k => XS.iushr X0.here hx rfl (hb hby at_10) rfl k) ?_
  show own_Fin _ _ _ _ _ _ _ (s₁.setTop (mkF m 11 #[.val (.int p0), .val (.int p1), .val (.int p2), .val (.int p3), .val (.int p4), .val (.int (p0 &&& (7 : Int32))), .unset, .unset, .unset, .unset, .unset, .unset, .unset, .unset, .unset, .unset, .unset, .unset, .unset, .unset, .unset, .unset, .unset, .unset, .unset] [(.int (own_iushr p0 (3 : Int32))), (.int (p0 &&& (7 : Int32)))]))
  refine own_go (fun _ k => XS.iconst X0.here hx rfl (hb hby at_11) k) ?_
  refine own_go (fun _ k => XS.iand X0.here hx rfl (hb hby at_12) rfl k) ?_
  show own_Fin _ _ _ _ _ _ _ (s₁.setTop (mkF m 13 #[.val (.int p0), .val (.int p1), .val (.int p2), .val (.int p3), .val (.int p4), .val (.int (p0 &&& (7 : Int32))), .unset, .unset, .unset, .unset, .unset, .unset, .unset, .unset, .unset, .unset, .unset, .unset, .unset, .unset, .unset, .unset, .unset, .unset, .unset] [(.int ((own_iushr p0 (3 : Int32)) &&& (3 : Int32))), (.int (p0 &&& (7 : Int32)))]))
  refine own_go (fun _ k => XS.iadd X0.here hx rfl (hb hby at_13) rfl k) ?_
  show own_Fin _ _ _ _ _ _ _ (s₁.setTop (mkF m 14 #[.val (.int p0), .val (.int p1), .val (.int p2), .val (.int p3), .val (.int p4), .val (.int (p0 &&& (7 : Int32))), .unset, .unset, .unset, .unset, .unset, .unset, .unset, .unset, .unset, .unset, .unset, .unset, .unset, .unset, .unset, .unset, .unset, .unset, .unset] [(.int ((p0 &&& (7 : Int32)) + ((own_iushr p0 (3 : Int32)) &&& (3 : Int32))))]))
  refine own_go (fun _ k => XS.istore X0.here hx rfl (hb hby at_14) rfl (l' := #[.val (.int p0), .val (.int p1), .val (.int p2), .val (.int p3), .val (.int p4), .val (.int (p0 &&& (7 : Int32))), .val (.int ((p0 &&& (7 : Int32)) + ((own_iushr p0 (3 : Int32)) &&& (3 : Int32)))), .unset, .unset, .unset, .unset, .unset, .unset, .unset, .unset, .unset, .unset, .unset, .unset, .unset, .unset, .unset, .unset, .unset, .unset]) rfl k) ?_
  show own_Fin _ _ _ _ _ _ _ (s₁.setTop (mkF m 16 #[.val (.int p0), .val (.int p1), .val (.int p2), .val (.int p3), .val (.int p4), .val (.int (p0 &&& (7 : Int32))), .val (.int ((p0 &&& (7 : Int32)) + ((own_iushr p0 (3 : Int32)) &&& (3 : Int32)))), .unset, .unset, .unset, .unset, .unset, .unset, .unset, .unset, .unset, .unset, .unset, .unset, .unset, .unset, .unset, .unset, .unset, .unset] []))
  generalize hz1 : ((p0 &&& (7 : Int32)) + ((own_iushr p0 (3 : Int32)) &&& (3 : Int32))) = z1
  show own_Fin _ _ _ _ _ _ _ (s₁.setTop (mkF m 16 #[.val (.int p0), .val (.int p1), .val (.int p2), .val (.int p3), .val (.int p4), .val (.int (p0 &&& (7 : Int32))), .val (.int z1), .unset, .unset, .unset, .unset, .unset, .unset, .unset, .unset, .unset, .unset, .unset, .unset, .unset, .unset, .unset, .unset, .unset, .unset] []))
  refine own_go (fun _ k => XS.iload X0.here hx rfl (hb hby at_16) rfl k) ?_
  refine own_go (fun _ k => XS.iloadN X0.here hx rfl (hb hby at_18) rfl k) ?_
  refine own_go (fun _ k => XS.iconst X0.here hx rfl (hb hby at_19) k) ?_
  refine own_go (fun _ k => XS.iushr X0.here hx rfl (hb hby at_20) rfl k) ?_
  show own_Fin _ _ _ _ _ _ _ (s₁.setTop (mkF m 21 #[.val (.int p0), .val (.int p1), .val (.int p2), .val (.int p3), .val (.int p4), .val (.int (p0 &&& (7 : Int32))), .val (.int z1), .unset, .unset, .unset, .unset, .unset, .unset, .unset, .unset, .unset, .unset, .unset, .unset, .unset, .unset, .unset, .unset, .unset, .unset] [(.int (own_iushr p0 (5 : Int32))), (.int z1)]))
  refine own_go (fun _ k => XS.iconst X0.here hx rfl (hb hby at_21) k) ?_
  refine own_go (fun _ k => XS.iand X0.here hx rfl (hb hby at_22) rfl k) ?_
  show own_Fin _ _ _ _ _ _ _ (s₁.setTop (mkF m 23 #[.val (.int p0), .val (.int p1), .val (.int p2), .val (.int p3), .val (.int p4), .val (.int (p0 &&& (7 : Int32))), .val (.int z1), .unset, .unset, .unset, .unset, .unset, .unset, .unset, .unset, .unset, .unset, .unset, .unset, .unset, .unset, .unset, .unset, .unset, .unset] [(.int ((own_iushr p0 (5 : Int32)) &&& (3 : Int32))), (.int z1)]))
  refine own_go (fun _ k => XS.iadd X0.here hx rfl (hb hby at_23) rfl k) ?_
  show own_Fin _ _ _ _ _ _ _ (s₁.setTop (mkF m 24 #[.val (.int p0), .val (.int p1), .val (.int p2), .val (.int p3), .val (.int p4), .val (.int (p0 &&& (7 : Int32))), .val (.int z1), .unset, .unset, .unset, .unset, .unset, .unset, .unset, .unset, .unset, .unset, .unset, .unset, .unset, .unset, .unset, .unset, .unset, .unset] [(.int (z1 + ((own_iushr p0 (5 : Int32)) &&& (3 : Int32))))]))
  refine own_go (fun _ k => XS.istore X0.here hx rfl (hb hby at_24) rfl (l' := #[.val (.int p0), .val (.int p1), .val (.int p2), .val (.int p3), .val (.int p4), .val (.int (p0 &&& (7 : Int32))), .val (.int z1), .val (.int (z1 + ((own_iushr p0 (5 : Int32)) &&& (3 : Int32)))), .unset, .unset, .unset, .unset, .unset, .unset, .unset, .unset, .unset, .unset, .unset, .unset, .unset, .unset, .unset, .unset, .unset]) rfl k) ?_
  show own_Fin _ _ _ _ _ _ _ (s₁.setTop (mkF m 26 #[.val (.int p0), .val (.int p1), .val (.int p2), .val (.int p3), .val (.int p4), .val (.int (p0 &&& (7 : Int32))), .val (.int z1), .val (.int (z1 + ((own_iushr p0 (5 : Int32)) &&& (3 : Int32)))), .unset, .unset, .unset, .unset, .unset, .unset, .unset, .unset, .unset, .unset, .unset, .unset, .unset, .unset, .unset, .unset, .unset] []))
  generalize hz2 : (z1 + ((own_iushr p0 (5 : Int32)) &&& (3 : Int32))) = z2
  show own_Fin _ _ _ _ _ _ _ (s₁.setTop (mkF m 26 #[.val (.int p0), .val (.int p1), .val (.int p2), .val (.int p3), .val (.int p4), .val (.int (p0 &&& (7 : Int32))), .val (.int z1), .val (.int z2), .unset, .unset, .unset, .unset, .unset, .unset, .unset, .unset, .unset, .unset, .unset, .unset, .unset, .unset, .unset, .unset, .unset] []))
  refine own_go (fun _ k => XS.iloadN X0.here hx rfl (hb hby at_26) rfl k) ?_
  refine own_go (fun _ k => XS.bipush X0.here hx rfl (hb hby at_27) k) ?_
  refine own_go (fun _ k => XS.iushr X0.here hx rfl (hb hby at_29) rfl k) ?_
  show own_Fin _ _ _ _ _ _ _ (s₁.setTop (mkF m 30 #[.val (.int p0), .val (.int p1), .val (.int p2), .val (.int p3), .val (.int p4), .val (.int (p0 &&& (7 : Int32))), .val (.int z1), .val (.int z2), .unset, .unset, .unset, .unset, .unset, .unset, .unset, .unset, .unset, .unset, .unset, .unset, .unset, .unset, .unset, .unset, .unset] [(.int (own_iushr p0 (7 : Int32)))]))
  refine own_go (fun _ k => XS.iconst X0.here hx rfl (hb hby at_30) k) ?_
  refine own_go (fun _ k => XS.iand X0.here hx rfl (hb hby at_31) rfl k) ?_
  show own_Fin _ _ _ _ _ _ _ (s₁.setTop (mkF m 32 #[.val (.int p0), .val (.int p1), .val (.int p2), .val (.int p3), .val (.int p4), .val (.int (p0 &&& (7 : Int32))), .val (.int z1), .val (.int z2), .unset, .unset, .unset, .unset, .unset, .unset, .unset, .unset, .unset, .unset, .unset, .unset, .unset, .unset, .unset, .unset, .unset] [(.int ((own_iushr p0 (7 : Int32)) &&& (1 : Int32)))]))
  have hk4 : ∀ (T' : State) (L' : List Loc), Stand p l e room_1 s m #[(.int p0), (.int p1), (.int p2), (.int p3), (.int p4)] below meth c T' L' 0 0 → Fr n0 L' → T'.heap = h0 → own_Fin p.tables e below s (own_QL (some (.int (1 : Int32))) n0) 32 192 (T'.setTop (mkF m 40 #[.val (.int p0), .val (.int p1), .val (.int p2), .val (.int p3), .val (.int p4), .val (.int (p0 &&& (7 : Int32))), .val (.int z1), .val (.int z2), .unset, .unset, .unset, .unset, .unset, .unset, .unset, .unset, .unset, .unset, .unset, .unset, .unset, .unset, .unset, .unset, .unset] [(.int (if ((own_iushr p0 (7 : Int32)) &&& (1 : Int32)) = (0 : Int32) then (0 : Int32) else (1 : Int32)))])) := by
    intro T5 L5 X5 N5 e5
    generalize hz6 : (if ((own_iushr p0 (7 : Int32)) &&& (1 : Int32)) = (0 : Int32) then (0 : Int32) else (1 : Int32)) = z6
    show own_Fin _ _ _ _ _ _ _ (T5.setTop (mkF m 40 #[.val (.int p0), .val (.int p1), .val (.int p2), .val (.int p3), .val (.int p4), .val (.int (p0 &&& (7 : Int32))), .val (.int z1), .val (.int z2), .unset, .unset, .unset, .unset, .unset, .unset, .unset, .unset, .unset, .unset, .unset, .unset, .unset, .unset, .unset, .unset, .unset] [(.int z6)]))
    refine own_go (fun _ k => XS.istore X5.here hx rfl (hb hby at_40) rfl (l' := #[.val (.int p0), .val (.int p1), .val (.int p2), .val (.int p3), .val (.int p4), .val (.int (p0 &&& (7 : Int32))), .val (.int z1), .val (.int z2), .val (.int z6), .unset, .unset, .unset, .unset, .unset, .unset, .unset, .unset, .unset, .unset, .unset, .unset, .unset, .unset, .unset, .unset]) rfl k) ?_
    show own_Fin _ _ _ _ _ _ _ (T5.setTop (mkF m 42 #[.val (.int p0), .val (.int p1), .val (.int p2), .val (.int p3), .val (.int p4), .val (.int (p0 &&& (7 : Int32))), .val (.int z1), .val (.int z2), .val (.int z6), .unset, .unset, .unset, .unset, .unset, .unset, .unset, .unset, .unset, .unset, .unset, .unset, .unset, .unset, .unset, .unset] []))
    refine own_go (fun _ k => XS.iloadN X5.here hx rfl (hb hby at_42) rfl k) ?_
    refine own_go (fun _ k => XS.bipush X5.here hx rfl (hb hby at_43) k) ?_
    refine own_go (fun _ k => XS.iushr X5.here hx rfl (hb hby at_45) rfl k) ?_
    show own_Fin _ _ _ _ _ _ _ (T5.setTop (mkF m 46 #[.val (.int p0), .val (.int p1), .val (.int p2), .val (.int p3), .val (.int p4), .val (.int (p0 &&& (7 : Int32))), .val (.int z1), .val (.int z2), .val (.int z6), .unset, .unset, .unset, .unset, .unset, .unset, .unset, .unset, .unset, .unset, .unset, .unset, .unset, .unset, .unset, .unset] [(.int (own_iushr p0 (8 : Int32)))]))
    refine own_go (fun _ k => XS.iconst X5.here hx rfl (hb hby at_46) k) ?_
    refine own_go (fun _ k => XS.iand X5.here hx rfl (hb hby at_47) rfl k) ?_
    show own_Fin _ _ _ _ _ _ _ (T5.setTop (mkF m 48 #[.val (.int p0), .val (.int p1), .val (.int p2), .val (.int p3), .val (.int p4), .val (.int (p0 &&& (7 : Int32))), .val (.int z1), .val (.int z2), .val (.int z6), .unset, .unset, .unset, .unset, .unset, .unset, .unset, .unset, .unset, .unset, .unset, .unset, .unset, .unset, .unset, .unset] [(.int ((own_iushr p0 (8 : Int32)) &&& (1 : Int32)))]))
    have hk8 : ∀ (T' : State) (L' : List Loc), Stand p l e room_1 s m #[(.int p0), (.int p1), (.int p2), (.int p3), (.int p4)] below meth c T' L' 0 0 → Fr n0 L' → T'.heap = h0 → own_Fin p.tables e below s (own_QL (some (.int (1 : Int32))) n0) 32 192 (T'.setTop (mkF m 56 #[.val (.int p0), .val (.int p1), .val (.int p2), .val (.int p3), .val (.int p4), .val (.int (p0 &&& (7 : Int32))), .val (.int z1), .val (.int z2), .val (.int z6), .unset, .unset, .unset, .unset, .unset, .unset, .unset, .unset, .unset, .unset, .unset, .unset, .unset, .unset, .unset, .unset] [(.int (if ((own_iushr p0 (8 : Int32)) &&& (1 : Int32)) = (0 : Int32) then (0 : Int32) else (1 : Int32)))])) := by
      intro T9 L9 X9 N9 e9
      generalize hz10 : (if ((own_iushr p0 (8 : Int32)) &&& (1 : Int32)) = (0 : Int32) then (0 : Int32) else (1 : Int32)) = z10
      show own_Fin _ _ _ _ _ _ _ (T9.setTop (mkF m 56 #[.val (.int p0), .val (.int p1), .val (.int p2), .val (.int p3), .val (.int p4), .val (.int (p0 &&& (7 : Int32))), .val (.int z1), .val (.int z2), .val (.int z6), .unset, .unset, .unset, .unset, .unset, .unset, .unset, .unset, .unset, .unset, .unset, .unset, .unset, .unset, .unset, .unset] [(.int z10)]))
      refine own_go (fun _ k => XS.istore X9.here hx rfl (hb hby at_56) rfl (l' := #[.val (.int p0), .val (.int p1), .val (.int p2), .val (.int p3), .val (.int p4), .val (.int (p0 &&& (7 : Int32))), .val (.int z1), .val (.int z2), .val (.int z6), .val (.int z10), .unset, .unset, .unset, .unset, .unset, .unset, .unset, .unset, .unset, .unset, .unset, .unset, .unset, .unset, .unset]) rfl k) ?_
      show own_Fin _ _ _ _ _ _ _ (T9.setTop (mkF m 58 #[.val (.int p0), .val (.int p1), .val (.int p2), .val (.int p3), .val (.int p4), .val (.int (p0 &&& (7 : Int32))), .val (.int z1), .val (.int z2), .val (.int z6), .val (.int z10), .unset, .unset, .unset, .unset, .unset, .unset, .unset, .unset, .unset, .unset, .unset, .unset, .unset, .unset, .unset] []))
      refine own_go (fun _ k => XS.iloadN X9.here hx rfl (hb hby at_58) rfl k) ?_
      refine own_go (fun _ k => XS.bipush X9.here hx rfl (hb hby at_59) k) ?_
      refine own_go (fun _ k => XS.iand X9.here hx rfl (hb hby at_61) rfl k) ?_
      show own_Fin _ _ _ _ _ _ _ (T9.setTop (mkF m 62 #[.val (.int p0), .val (.int p1), .val (.int p2), .val (.int p3), .val (.int p4), .val (.int (p0 &&& (7 : Int32))), .val (.int z1), .val (.int z2), .val (.int z6), .val (.int z10), .unset, .unset, .unset, .unset, .unset, .unset, .unset, .unset, .unset, .unset, .unset, .unset, .unset, .unset, .unset] [(.int (p1 &&& (15 : Int32)))]))
      refine own_go (fun _ k => XS.istore X9.here hx rfl (hb hby at_62) rfl (l' := #[.val (.int p0), .val (.int p1), .val (.int p2), .val (.int p3), .val (.int p4), .val (.int (p0 &&& (7 : Int32))), .val (.int z1), .val (.int z2), .val (.int z6), .val (.int z10), .val (.int (p1 &&& (15 : Int32))), .unset, .unset, .unset, .unset, .unset, .unset, .unset, .unset, .unset, .unset, .unset, .unset, .unset, .unset]) rfl k) ?_
      show own_Fin _ _ _ _ _ _ _ (T9.setTop (mkF m 64 #[.val (.int p0), .val (.int p1), .val (.int p2), .val (.int p3), .val (.int p4), .val (.int (p0 &&& (7 : Int32))), .val (.int z1), .val (.int z2), .val (.int z6), .val (.int z10), .val (.int (p1 &&& (15 : Int32))), .unset, .unset, .unset, .unset, .unset, .unset, .unset, .unset, .unset, .unset, .unset, .unset, .unset, .unset] []))
      refine own_go (fun _ k => XS.iloadN X9.here hx rfl (hb hby at_64) rfl k) ?_
      refine own_go (fun _ k => XS.iconst X9.here hx rfl (hb hby at_65) k) ?_
      refine own_go (fun _ k => XS.iushr X9.here hx rfl (hb hby at_66) rfl k) ?_
      show own_Fin _ _ _ _ _ _ _ (T9.setTop (mkF m 67 #[.val (.int p0), .val (.int p1), .val (.int p2), .val (.int p3), .val (.int p4), .val (.int (p0 &&& (7 : Int32))), .val (.int z1), .val (.int z2), .val (.int z6), .val (.int z10), .val (.int (p1 &&& (15 : Int32))), .unset, .unset, .unset, .unset, .unset, .unset, .unset, .unset, .unset, .unset, .unset, .unset, .unset, .unset] [(.int (own_iushr p1 (4 : Int32)))]))
      refine own_go (fun _ k => XS.bipush X9.here hx rfl (hb hby at_67) k) ?_
      refine own_go (fun _ k => XS.iand X9.here hx rfl (hb hby at_69) rfl k) ?_
      show own_Fin _ _ _ _ _ _ _ (T9.setTop (mkF m 70 #[.val (.int p0), .val (.int p1), .val (.int p2), .val (.int p3), .val (.int p4), .val (.int (p0 &&& (7 : Int32))), .val (.int z1), .val (.int z2), .val (.int z6), .val (.int z10), .val (.int (p1 &&& (15 : Int32))), .unset, .unset, .unset, .unset, .unset, .unset, .unset, .unset, .unset, .unset, .unset, .unset, .unset, .unset] [(.int ((own_iushr p1 (4 : Int32)) &&& (15 : Int32)))]))
      refine own_go (fun _ k => XS.istore X9.here hx rfl (hb hby at_70) rfl (l' := #[.val (.int p0), .val (.int p1), .val (.int p2), .val (.int p3), .val (.int p4), .val (.int (p0 &&& (7 : Int32))), .val (.int z1), .val (.int z2), .val (.int z6), .val (.int z10), .val (.int (p1 &&& (15 : Int32))), .val (.int ((own_iushr p1 (4 : Int32)) &&& (15 : Int32))), .unset, .unset, .unset, .unset, .unset, .unset, .unset, .unset, .unset, .unset, .unset, .unset, .unset]) rfl k) ?_
      show own_Fin _ _ _ _ _ _ _ (T9.setTop (mkF m 72 #[.val (.int p0), .val (.int p1), .val (.int p2), .val (.int p3), .val (.int p4), .val (.int (p0 &&& (7 : Int32))), .val (.int z1), .val (.int z2), .val (.int z6), .val (.int z10), .val (.int (p1 &&& (15 : Int32))), .val (.int ((own_iushr p1 (4 : Int32)) &&& (15 : Int32))), .unset, .unset, .unset, .unset, .unset, .unset, .unset, .unset, .unset, .unset, .unset, .unset, .unset] []))
      generalize hz11 : ((own_iushr p1 (4 : Int32)) &&& (15 : Int32)) = z11
      show own_Fin _ _ _ _ _ _ _ (T9.setTop (mkF m 72 #[.val (.int p0), .val (.int p1), .val (.int p2), .val (.int p3), .val (.int p4), .val (.int (p0 &&& (7 : Int32))), .val (.int z1), .val (.int z2), .val (.int z6), .val (.int z10), .val (.int (p1 &&& (15 : Int32))), .val (.int z11), .unset, .unset, .unset, .unset, .unset, .unset, .unset, .unset, .unset, .unset, .unset, .unset, .unset] []))
      refine own_go (fun _ k => XS.iloadN X9.here hx rfl (hb hby at_72) rfl k) ?_
      refine own_go (fun _ k => XS.bipush X9.here hx rfl (hb hby at_73) k) ?_
      refine own_go (fun _ k => XS.iushr X9.here hx rfl (hb hby at_75) rfl k) ?_
      show own_Fin _ _ _ _ _ _ _ (T9.setTop (mkF m 76 #[.val (.int p0), .val (.int p1), .val (.int p2), .val (.int p3), .val (.int p4), .val (.int (p0 &&& (7 : Int32))), .val (.int z1), .val (.int z2), .val (.int z6), .val (.int z10), .val (.int (p1 &&& (15 : Int32))), .val (.int z11), .unset, .unset, .unset, .unset, .unset, .unset, .unset, .unset, .unset, .unset, .unset, .unset, .unset] [(.int (own_iushr p1 (8 : Int32)))]))
      refine own_go (fun _ k => XS.bipush X9.here hx rfl (hb hby at_76) k) ?_
      refine own_go (fun _ k => XS.iand X9.here hx rfl (hb hby at_78) rfl k) ?_
      show own_Fin _ _ _ _ _ _ _ (T9.setTop (mkF m 79 #[.val (.int p0), .val (.int p1), .val (.int p2), .val (.int p3), .val (.int p4), .val (.int (p0 &&& (7 : Int32))), .val (.int z1), .val (.int z2), .val (.int z6), .val (.int z10), .val (.int (p1 &&& (15 : Int32))), .val (.int z11), .unset, .unset, .unset, .unset, .unset, .unset, .unset, .unset, .unset, .unset, .unset, .unset, .unset] [(.int ((own_iushr p1 (8 : Int32)) &&& (15 : Int32)))]))
      refine own_go (fun _ k => XS.istore X9.here hx rfl (hb hby at_79) rfl (l' := #[.val (.int p0), .val (.int p1), .val (.int p2), .val (.int p3), .val (.int p4), .val (.int (p0 &&& (7 : Int32))), .val (.int z1), .val (.int z2), .val (.int z6), .val (.int z10), .val (.int (p1 &&& (15 : Int32))), .val (.int z11), .val (.int ((own_iushr p1 (8 : Int32)) &&& (15 : Int32))), .unset, .unset, .unset, .unset, .unset, .unset, .unset, .unset, .unset, .unset, .unset, .unset]) rfl k) ?_
      show own_Fin _ _ _ _ _ _ _ (T9.setTop (mkF m 81 #[.val (.int p0), .val (.int p1), .val (.int p2), .val (.int p3), .val (.int p4), .val (.int (p0 &&& (7 : Int32))), .val (.int z1), .val (.int z2), .val (.int z6), .val (.int z10), .val (.int (p1 &&& (15 : Int32))), .val (.int z11), .val (.int ((own_iushr p1 (8 : Int32)) &&& (15 : Int32))), .unset, .unset, .unset, .unset, .unset, .unset, .unset, .unset, .unset, .unset, .unset, .unset] []))
      generalize hz12 : ((own_iushr p1 (8 : Int32)) &&& (15 : Int32)) = z12
      show own_Fin _ _ _ _ _ _ _ (T9.setTop (mkF m 81 #[.val (.int p0), .val (.int p1), .val (.int p2), .val (.int p3), .val (.int p4), .val (.int (p0 &&& (7 : Int32))), .val (.int z1), .val (.int z2), .val (.int z6), .val (.int z10), .val (.int (p1 &&& (15 : Int32))), .val (.int z11), .val (.int z12), .unset, .unset, .unset, .unset, .unset, .unset, .unset, .unset, .unset, .unset, .unset, .unset] []))
      refine own_go (fun _ k => XS.iloadN X9.here hx rfl (hb hby at_81) rfl k) ?_
      refine own_go (fun _ k => XS.bipush X9.here hx rfl (hb hby at_82) k) ?_
      refine own_go (fun _ k => XS.iushr X9.here hx rfl (hb hby at_84) rfl k) ?_
      show own_Fin _ _ _ _ _ _ _ (T9.setTop (mkF m 85 #[.val (.int p0), .val (.int p1), .val (.int p2), .val (.int p3), .val (.int p4), .val (.int (p0 &&& (7 : Int32))), .val (.int z1), .val (.int z2), .val (.int z6), .val (.int z10), .val (.int (p1 &&& (15 : Int32))), .val (.int z11), .val (.int z12), .unset, .unset, .unset, .unset, .unset, .unset, .unset, .unset, .unset, .unset, .unset, .unset] [(.int (own_iushr p1 (12 : Int32)))]))
      refine own_go (fun _ k => XS.bipush X9.here hx rfl (hb hby at_85) k) ?_
      refine own_go (fun _ k => XS.iand X9.here hx rfl (hb hby at_87) rfl k) ?_
      show own_Fin _ _ _ _ _ _ _ (T9.setTop (mkF m 88 #[.val (.int p0), .val (.int p1), .val (.int p2), .val (.int p3), .val (.int p4), .val (.int (p0 &&& (7 : Int32))), .val (.int z1), .val (.int z2), .val (.int z6), .val (.int z10), .val (.int (p1 &&& (15 : Int32))), .val (.int z11), .val (.int z12), .unset, .unset, .unset, .unset, .unset, .unset, .unset, .unset, .unset, .unset, .unset, .unset] [(.int ((own_iushr p1 (12 : Int32)) &&& (15 : Int32)))]))
      refine own_go (fun _ k => XS.istore X9.here hx rfl (hb hby at_88) rfl (l' := #[.val (.int p0), .val (.int p1), .val (.int p2), .val (.int p3), .val (.int p4), .val (.int (p0 &&& (7 : Int32))), .val (.int z1), .val (.int z2), .val (.int z6), .val (.int z10), .val (.int (p1 &&& (15 : Int32))), .val (.int z11), .val (.int z12), .val (.int ((own_iushr p1 (12 : Int32)) &&& (15 : Int32))), .unset, .unset, .unset, .unset, .unset, .unset, .unset, .unset, .unset, .unset, .unset]) rfl k) ?_
      show own_Fin _ _ _ _ _ _ _ (T9.setTop (mkF m 90 #[.val (.int p0), .val (.int p1), .val (.int p2), .val (.int p3), .val (.int p4), .val (.int (p0 &&& (7 : Int32))), .val (.int z1), .val (.int z2), .val (.int z6), .val (.int z10), .val (.int (p1 &&& (15 : Int32))), .val (.int z11), .val (.int z12), .val (.int ((own_iushr p1 (12 : Int32)) &&& (15 : Int32))), .unset, .unset, .unset, .unset, .unset, .unset, .unset, .unset, .unset, .unset, .unset] []))
      generalize hz13 : ((own_iushr p1 (12 : Int32)) &&& (15 : Int32)) = z13
      show own_Fin _ _ _ _ _ _ _ (T9.setTop (mkF m 90 #[.val (.int p0), .val (.int p1), .val (.int p2), .val (.int p3), .val (.int p4), .val (.int (p0 &&& (7 : Int32))), .val (.int z1), .val (.int z2), .val (.int z6), .val (.int z10), .val (.int (p1 &&& (15 : Int32))), .val (.int z11), .val (.int z12), .val (.int z13), .unset, .unset, .unset, .unset, .unset, .unset, .unset, .unset, .unset, .unset, .unset] []))
      obtain ⟨T14, h14, X14, e14, E14, A14, D14, -, st14⟩ := newO X9 hx hZ hown (hw _ (List.mem_of_getElem? (i := 0) rfl)) (hw _ (List.mem_of_getElem? (i := 1) rfl)) (hw _ (List.mem_of_getElem? (i := 2) rfl)) e9 (g := (mkF m 90 #[.val (.int p0), .val (.int p1), .val (.int p2), .val (.int p3), .val (.int p4), .val (.int (p0 &&& (7 : Int32))), .val (.int z1), .val (.int z2), .val (.int z6), .val (.int z10), .val (.int (p1 &&& (15 : Int32))), .val (.int z11), .val (.int z12), .val (.int z13), .unset, .unset, .unset, .unset, .unset, .unset, .unset, .unset, .unset, .unset, .unset] [])) rfl (hb hby at_90) (by decide) (by decide)
      obtain ⟨b14, g14⟩ : ∃ z, z = h0.size := ⟨_, rfl⟩
      rw [← g14] at A14 D14 st14
      have ge_b14 : n0 ≤ b14 := Nat.le_trans Z0 (Nat.le_of_eq g14.symm)
      have Z14 : n0 ≤ h14.size := Nat.le_trans Z0 E14.1
      have E_b14_14 : Exa Z h14 b14 "com/example/reachability/reachability/CandidateList" := A14
      have F_search_b14_14 : Fld Z h14 b14 "com/example/reachability/reachability/CandidateList" "search" "I" (.int (0 : Int32)) := D14 (Or.inl (hw _ (List.mem_of_getElem? (i := 11) rfl))) (ty := .int) (by decide)
      have F_runs_b14_14 : Fld Z h14 b14 "com/example/reachability/reachability/CandidateList" "runs" "[I" .null := D14 (Or.inl (hw _ (List.mem_of_getElem? (i := 13) rfl))) (ty := (.array .int)) (by decide)
      have F_numbers_b14_14 : Fld Z h14 b14 "com/example/reachability/reachability/CandidateList" "numbers" "[I" .null := D14 (Or.inr (hw _ (List.mem_of_getElem? (i := 15) rfl))) (ty := (.array .int)) (by decide)
      have F_elements_b14_14 : Fld Z h14 b14 "com/example/reachability/reachability/CandidateList" "elements" "[I" .null := D14 (Or.inr (hw _ (List.mem_of_getElem? (i := 17) rfl))) (ty := (.array .int)) (by decide)
      have F_foundIn_b14_14 : Fld Z h14 b14 "com/example/reachability/reachability/CandidateList" "foundIn" "[I" .null := D14 (Or.inr (hw _ (List.mem_of_getElem? (i := 19) rfl))) (ty := (.array .int)) (by decide)
      have F_next_b14_14 : Fld Z h14 b14 "com/example/reachability/reachability/CandidateList" "next" "[I" .null := D14 (Or.inr (hw _ (List.mem_of_getElem? (i := 21) rfl))) (ty := (.array .int)) (by decide)
      have F_found_b14_14 : Fld Z h14 b14 "com/example/reachability/reachability/CandidateList" "found" "[I" .null := D14 (Or.inr (hw _ (List.mem_of_getElem? (i := 23) rfl))) (ty := (.array .int)) (by decide)
      have F_bucketShift_b14_14 : Fld Z h14 b14 "com/example/reachability/reachability/CandidateList" "bucketShift" "I" (.int (0 : Int32)) := D14 (Or.inr (hw _ (List.mem_of_getElem? (i := 32) rfl))) (ty := .int) (by decide)
      have F_bucketStart_b14_14 : Fld Z h14 b14 "com/example/reachability/reachability/CandidateList" "bucketStart" "[I" .null := D14 (Or.inr (hw _ (List.mem_of_getElem? (i := 37) rfl))) (ty := (.array .int)) (by decide)
      have F_foundCount_b14_14 : Fld Z h14 b14 "com/example/reachability/reachability/CandidateList" "foundCount" "I" (.int (0 : Int32)) := D14 (Or.inl (hw _ (List.mem_of_getElem? (i := 45) rfl))) (ty := .int) (by decide)
      have F_firstOnly_b14_14 : Fld Z h14 b14 "com/example/reachability/reachability/CandidateList" "firstOnly" "Z" (.int (0 : Int32)) := D14 (Or.inl (hw _ (List.mem_of_getElem? (i := 47) rfl))) (ty := .boolean) (by decide)
      have F_forRuns_b14_14 : Fld Z h14 b14 "com/example/reachability/reachability/CandidateList" "forRuns" "Z" (.int (0 : Int32)) := D14 (Or.inl (hw _ (List.mem_of_getElem? (i := 49) rfl))) (ty := .boolean) (by decide)
      have F_runsLength_b14_14 : Fld Z h14 b14 "com/example/reachability/reachability/CandidateList" "runsLength" "I" (.int (0 : Int32)) := D14 (Or.inl (hw _ (List.mem_of_getElem? (i := 51) rfl))) (ty := .int) (by decide)
      refine own_go (fun tg k => st14 tg k) ?_
      show own_Fin _ _ _ _ _ _ _ (T14.setTop (mkF m 93 #[.val (.int p0), .val (.int p1), .val (.int p2), .val (.int p3), .val (.int p4), .val (.int (p0 &&& (7 : Int32))), .val (.int z1), .val (.int z2), .val (.int z6), .val (.int z10), .val (.int (p1 &&& (15 : Int32))), .val (.int z11), .val (.int z12), .val (.int z13), .unset, .unset, .unset, .unset, .unset, .unset, .unset, .unset, .unset, .unset, .unset] [(.ref b14)]))
      refine own_go (fun _ k => XS.dup X14.here hx rfl (hb hby at_93) rfl rfl k) ?_
      refine own_go (fun _ k => XS.iconst X14.here hx rfl (hb hby at_94) k) ?_
      obtain ⟨T15, h15, k15, X15, e15, E15, A15, st15⟩ := newP X14 hx hZ (hw _ (List.mem_of_getElem? (i := 3) rfl)) e14 (g := (mkF m 95 #[.val (.int p0), .val (.int p1), .val (.int p2), .val (.int p3), .val (.int p4), .val (.int (p0 &&& (7 : Int32))), .val (.int z1), .val (.int z2), .val (.int z6), .val (.int z10), .val (.int (p1 &&& (15 : Int32))), .val (.int z11), .val (.int z12), .val (.int z13), .unset, .unset, .unset, .unset, .unset, .unset, .unset, .unset, .unset, .unset, .unset] [(.int (3 : Int32)), (.ref b14), (.ref b14)])) rfl (hb hby at_95) rfl (by decide) (cap := 3) (by decide) (by decide) (by decide) (by decide)
      obtain ⟨b15, g15⟩ : ∃ z, z = h14.size := ⟨_, rfl⟩
      rw [← g15] at A15 st15
      have ne_b14_b15 : b14 ≠ b15 := Nat.ne_of_lt (Nat.lt_of_lt_of_le E_b14_14.lt (Nat.le_of_eq g15.symm))
      have ge_b15 : n0 ≤ b15 := Nat.le_trans Z14 (Nat.le_of_eq g15.symm)
      have E_b14_15 := E_b14_14.ext E15
      have F_search_b14_15 := F_search_b14_14.ext E15
      have F_runs_b14_15 := F_runs_b14_14.ext E15
      have F_numbers_b14_15 := F_numbers_b14_14.ext E15
      have F_elements_b14_15 := F_elements_b14_14.ext E15
      have F_foundIn_b14_15 := F_foundIn_b14_14.ext E15
      have F_next_b14_15 := F_next_b14_14.ext E15
      have F_found_b14_15 := F_found_b14_14.ext E15
      have F_bucketShift_b14_15 := F_bucketShift_b14_14.ext E15
      have F_bucketStart_b14_15 := F_bucketStart_b14_14.ext E15
      have F_foundCount_b14_15 := F_foundCount_b14_14.ext E15
      have F_firstOnly_b14_15 := F_firstOnly_b14_14.ext E15
      have F_forRuns_b14_15 := F_forRuns_b14_14.ext E15
      have F_runsLength_b14_15 := F_runsLength_b14_14.ext E15
      have Z15 : n0 ≤ h15.size := Nat.le_trans Z14 E15.1
      have A_b15_15 : own_Arf Z h15 b15 .int (3 : Int32) (fun i => .int ((fun _ => (0 : Int32)) i)) := own_Arf.new A15 (by decide)
      refine own_go (fun tg k => st15 tg k) ?_
      show own_Fin _ _ _ _ _ _ _ (T15.setTop (mkF m 97 #[.val (.int p0), .val (.int p1), .val (.int p2), .val (.int p3), .val (.int p4), .val (.int (p0 &&& (7 : Int32))), .val (.int z1), .val (.int z2), .val (.int z6), .val (.int z10), .val (.int (p1 &&& (15 : Int32))), .val (.int z11), .val (.int z12), .val (.int z13), .unset, .unset, .unset, .unset, .unset, .unset, .unset, .unset, .unset, .unset, .unset] [(.ref b15), (.ref b14), (.ref b14)]))
      refine own_go (fun _ k => XS.dup X15.here hx rfl (hb hby at_97) rfl rfl k) ?_
      refine own_go (fun _ k => XS.iconst X15.here hx rfl (hb hby at_98) k) ?_
      refine own_go (fun _ k => XS.iload X15.here hx rfl (hb hby at_99) rfl k) ?_
      obtain ⟨T16, h16, X16, e16, W16, A_b15_16, st16⟩ := own_stI X15 hx hZ e15 A_b15_15 (j := (0 : Int32)) ⟨by decide, by decide⟩ (g := (mkF m 101 #[.val (.int p0), .val (.int p1), .val (.int p2), .val (.int p3), .val (.int p4), .val (.int (p0 &&& (7 : Int32))), .val (.int z1), .val (.int z2), .val (.int z6), .val (.int z10), .val (.int (p1 &&& (15 : Int32))), .val (.int z11), .val (.int z12), .val (.int z13), .unset, .unset, .unset, .unset, .unset, .unset, .unset, .unset, .unset, .unset, .unset] [(.int (p0 &&& (7 : Int32))), (.int (0 : Int32)), (.ref b15), (.ref b15), (.ref b14), (.ref b14)])) rfl rfl (hb hby at_101)
      have E_b14_16 := E_b14_15.wr W16
      have F_search_b14_16 := F_search_b14_15.other W16 (Or.inl ne_b14_b15)
      have F_runs_b14_16 := F_runs_b14_15.other W16 (Or.inl ne_b14_b15)
      have F_numbers_b14_16 := F_numbers_b14_15.other W16 (Or.inl ne_b14_b15)
      have F_elements_b14_16 := F_elements_b14_15.other W16 (Or.inl ne_b14_b15)
      have F_foundIn_b14_16 := F_foundIn_b14_15.other W16 (Or.inl ne_b14_b15)
      have F_next_b14_16 := F_next_b14_15.other W16 (Or.inl ne_b14_b15)
      have F_found_b14_16 := F_found_b14_15.other W16 (Or.inl ne_b14_b15)
      have F_bucketShift_b14_16 := F_bucketShift_b14_15.other W16 (Or.inl ne_b14_b15)
      have F_bucketStart_b14_16 := F_bucketStart_b14_15.other W16 (Or.inl ne_b14_b15)
      have F_foundCount_b14_16 := F_foundCount_b14_15.other W16 (Or.inl ne_b14_b15)
      have F_firstOnly_b14_16 := F_firstOnly_b14_15.other W16 (Or.inl ne_b14_b15)
      have F_forRuns_b14_16 := F_forRuns_b14_15.other W16 (Or.inl ne_b14_b15)
      have F_runsLength_b14_16 := F_runsLength_b14_15.other W16 (Or.inl ne_b14_b15)
      have N16 := Fr.snoc X16 N9 ge_b15
      have Z16 : n0 ≤ h16.size := Nat.le_trans Z15 (Keep.of_wr W16).1
      obtain ⟨f16, hf16⟩ : ∃ z, z = (own_set (fun _ => (0 : Int32)) (0 : Int32) (p0 &&& (7 : Int32))) := ⟨_, rfl⟩
      rw [← hf16] at A_b15_16
      refine own_go (fun tg k => st16 tg k) ?_
      show own_Fin _ _ _ _ _ _ _ (T16.setTop (mkF m 102 #[.val (.int p0), .val (.int p1), .val (.int p2), .val (.int p3), .val (.int p4), .val (.int (p0 &&& (7 : Int32))), .val (.int z1), .val (.int z2), .val (.int z6), .val (.int z10), .val (.int (p1 &&& (15 : Int32))), .val (.int z11), .val (.int z12), .val (.int z13), .unset, .unset, .unset, .unset, .unset, .unset, .unset, .unset, .unset, .unset, .unset] [(.ref b15), (.ref b14), (.ref b14)]))
      refine own_go (fun _ k => XS.dup X16.here hx rfl (hb hby at_102) rfl rfl k) ?_
      refine own_go (fun _ k => XS.iconst X16.here hx rfl (hb hby at_103) k) ?_
      refine own_go (fun _ k => XS.iload X16.here hx rfl (hb hby at_104) rfl k) ?_
      obtain ⟨T17, h17, X17, e17, W17, A_b15_17, st17⟩ := own_stI X16 hx hZ e16 A_b15_16 (j := (1 : Int32)) ⟨by decide, by decide⟩ (g := (mkF m 106 #[.val (.int p0), .val (.int p1), .val (.int p2), .val (.int p3), .val (.int p4), .val (.int (p0 &&& (7 : Int32))), .val (.int z1), .val (.int z2), .val (.int z6), .val (.int z10), .val (.int (p1 &&& (15 : Int32))), .val (.int z11), .val (.int z12), .val (.int z13), .unset, .unset, .unset, .unset, .unset, .unset, .unset, .unset, .unset, .unset, .unset] [(.int z1), (.int (1 : Int32)), (.ref b15), (.ref b15), (.ref b14), (.ref b14)])) rfl rfl (hb hby at_106)
      have E_b14_17 := E_b14_16.wr W17
      have F_search_b14_17 := F_search_b14_16.other W17 (Or.inl ne_b14_b15)
      have F_runs_b14_17 := F_runs_b14_16.other W17 (Or.inl ne_b14_b15)
      have F_numbers_b14_17 := F_numbers_b14_16.other W17 (Or.inl ne_b14_b15)
      have F_elements_b14_17 := F_elements_b14_16.other W17 (Or.inl ne_b14_b15)
      have F_foundIn_b14_17 := F_foundIn_b14_16.other W17 (Or.inl ne_b14_b15)
      have F_next_b14_17 := F_next_b14_16.other W17 (Or.inl ne_b14_b15)
      have F_found_b14_17 := F_found_b14_16.other W17 (Or.inl ne_b14_b15)
      have F_bucketShift_b14_17 := F_bucketShift_b14_16.other W17 (Or.inl ne_b14_b15)
      have F_bucketStart_b14_17 := F_bucketStart_b14_16.other W17 (Or.inl ne_b14_b15)
      have F_foundCount_b14_17 := F_foundCount_b14_16.other W17 (Or.inl ne_b14_b15)
      have F_firstOnly_b14_17 := F_firstOnly_b14_16.other W17 (Or.inl ne_b14_b15)
      have F_forRuns_b14_17 := F_forRuns_b14_16.other W17 (Or.inl ne_b14_b15)
      have F_runsLength_b14_17 := F_runsLength_b14_16.other W17 (Or.inl ne_b14_b15)
      have N17 := Fr.snoc X17 N16 ge_b15
      have Z17 : n0 ≤ h17.size := Nat.le_trans Z16 (Keep.of_wr W17).1
      obtain ⟨f17, hf17⟩ : ∃ z, z = (own_set f16 (1 : Int32) z1) := ⟨_, rfl⟩
      rw [← hf17] at A_b15_17
      refine own_go (fun tg k => st17 tg k) ?_
      show own_Fin _ _ _ _ _ _ _ (T17.setTop (mkF m 107 #[.val (.int p0), .val (.int p1), .val (.int p2), .val (.int p3), .val (.int p4), .val (.int (p0 &&& (7 : Int32))), .val (.int z1), .val (.int z2), .val (.int z6), .val (.int z10), .val (.int (p1 &&& (15 : Int32))), .val (.int z11), .val (.int z12), .val (.int z13), .unset, .unset, .unset, .unset, .unset, .unset, .unset, .unset, .unset, .unset, .unset] [(.ref b15), (.ref b14), (.ref b14)]))
      refine own_go (fun _ k => XS.dup X17.here hx rfl (hb hby at_107) rfl rfl k) ?_
      refine own_go (fun _ k => XS.iconst X17.here hx rfl (hb hby at_108) k) ?_
      refine own_go (fun _ k => XS.iload X17.here hx rfl (hb hby at_109) rfl k) ?_
      obtain ⟨T18, h18, X18, e18, W18, A_b15_18, st18⟩ := own_stI X17 hx hZ e17 A_b15_17 (j := (2 : Int32)) ⟨by decide, by decide⟩ (g := (mkF m 111 #[.val (.int p0), .val (.int p1), .val (.int p2), .val (.int p3), .val (.int p4), .val (.int (p0 &&& (7 : Int32))), .val (.int z1), .val (.int z2), .val (.int z6), .val (.int z10), .val (.int (p1 &&& (15 : Int32))), .val (.int z11), .val (.int z12), .val (.int z13), .unset, .unset, .unset, .unset, .unset, .unset, .unset, .unset, .unset, .unset, .unset] [(.int z2), (.int (2 : Int32)), (.ref b15), (.ref b15), (.ref b14), (.ref b14)])) rfl rfl (hb hby at_111)
      have E_b14_18 := E_b14_17.wr W18
      have F_search_b14_18 := F_search_b14_17.other W18 (Or.inl ne_b14_b15)
      have F_runs_b14_18 := F_runs_b14_17.other W18 (Or.inl ne_b14_b15)
      have F_numbers_b14_18 := F_numbers_b14_17.other W18 (Or.inl ne_b14_b15)
      have F_elements_b14_18 := F_elements_b14_17.other W18 (Or.inl ne_b14_b15)
      have F_foundIn_b14_18 := F_foundIn_b14_17.other W18 (Or.inl ne_b14_b15)
      have F_next_b14_18 := F_next_b14_17.other W18 (Or.inl ne_b14_b15)
      have F_found_b14_18 := F_found_b14_17.other W18 (Or.inl ne_b14_b15)
      have F_bucketShift_b14_18 := F_bucketShift_b14_17.other W18 (Or.inl ne_b14_b15)
      have F_bucketStart_b14_18 := F_bucketStart_b14_17.other W18 (Or.inl ne_b14_b15)
      have F_foundCount_b14_18 := F_foundCount_b14_17.other W18 (Or.inl ne_b14_b15)
      have F_firstOnly_b14_18 := F_firstOnly_b14_17.other W18 (Or.inl ne_b14_b15)
      have F_forRuns_b14_18 := F_forRuns_b14_17.other W18 (Or.inl ne_b14_b15)
      have F_runsLength_b14_18 := F_runsLength_b14_17.other W18 (Or.inl ne_b14_b15)
      have N18 := Fr.snoc X18 N17 ge_b15
      have Z18 : n0 ≤ h18.size := Nat.le_trans Z17 (Keep.of_wr W18).1
      obtain ⟨f18, hf18⟩ : ∃ z, z = (own_set f17 (2 : Int32) z2) := ⟨_, rfl⟩
      rw [← hf18] at A_b15_18
      refine own_go (fun tg k => st18 tg k) ?_
      show own_Fin _ _ _ _ _ _ _ (T18.setTop (mkF m 112 #[.val (.int p0), .val (.int p1), .val (.int p2), .val (.int p3), .val (.int p4), .val (.int (p0 &&& (7 : Int32))), .val (.int z1), .val (.int z2), .val (.int z6), .val (.int z10), .val (.int (p1 &&& (15 : Int32))), .val (.int z11), .val (.int z12), .val (.int z13), .unset, .unset, .unset, .unset, .unset, .unset, .unset, .unset, .unset, .unset, .unset] [(.ref b15), (.ref b14), (.ref b14)]))
      refine own_go (fun _ k => XS.iconst X18.here hx rfl (hb hby at_112) k) ?_
      obtain ⟨T19, h19, k19, X19, e19, E19, A19, st19⟩ := newP X18 hx hZ (hw _ (List.mem_of_getElem? (i := 3) rfl)) e18 (g := (mkF m 113 #[.val (.int p0), .val (.int p1), .val (.int p2), .val (.int p3), .val (.int p4), .val (.int (p0 &&& (7 : Int32))), .val (.int z1), .val (.int z2), .val (.int z6), .val (.int z10), .val (.int (p1 &&& (15 : Int32))), .val (.int z11), .val (.int z12), .val (.int z13), .unset, .unset, .unset, .unset, .unset, .unset, .unset, .unset, .unset, .unset, .unset] [(.int (3 : Int32)), (.ref b15), (.ref b14), (.ref b14)])) rfl (hb hby at_113) rfl (by decide) (cap := 3) (by decide) (by decide) (by decide) (by decide)
      obtain ⟨b19, g19⟩ : ∃ z, z = h18.size := ⟨_, rfl⟩
      rw [← g19] at A19 st19
      have ne_b14_b19 : b14 ≠ b19 := Nat.ne_of_lt (Nat.lt_of_lt_of_le E_b14_18.lt (Nat.le_of_eq g19.symm))
      have ne_b15_b19 : b15 ≠ b19 := Nat.ne_of_lt (Nat.lt_of_lt_of_le A_b15_18.lt (Nat.le_of_eq g19.symm))
      have ge_b19 : n0 ≤ b19 := Nat.le_trans Z18 (Nat.le_of_eq g19.symm)
      have E_b14_19 := E_b14_18.ext E19
      have F_search_b14_19 := F_search_b14_18.ext E19
      have F_runs_b14_19 := F_runs_b14_18.ext E19
      have F_numbers_b14_19 := F_numbers_b14_18.ext E19
      have F_elements_b14_19 := F_elements_b14_18.ext E19
      have F_foundIn_b14_19 := F_foundIn_b14_18.ext E19
      have F_next_b14_19 := F_next_b14_18.ext E19
      have F_found_b14_19 := F_found_b14_18.ext E19
      have F_bucketShift_b14_19 := F_bucketShift_b14_18.ext E19
      have F_bucketStart_b14_19 := F_bucketStart_b14_18.ext E19
      have F_foundCount_b14_19 := F_foundCount_b14_18.ext E19
      have F_firstOnly_b14_19 := F_firstOnly_b14_18.ext E19
      have F_forRuns_b14_19 := F_forRuns_b14_18.ext E19
      have F_runsLength_b14_19 := F_runsLength_b14_18.ext E19
      have A_b15_19 := A_b15_18.ext E19
      have Z19 : n0 ≤ h19.size := Nat.le_trans Z18 E19.1
      have A_b19_19 : own_Arf Z h19 b19 .int (3 : Int32) (fun i => .int ((fun _ => (0 : Int32)) i)) := own_Arf.new A19 (by decide)
      refine own_go (fun tg k => st19 tg k) ?_
      show own_Fin _ _ _ _ _ _ _ (T19.setTop (mkF m 115 #[.val (.int p0), .val (.int p1), .val (.int p2), .val (.int p3), .val (.int p4), .val (.int (p0 &&& (7 : Int32))), .val (.int z1), .val (.int z2), .val (.int z6), .val (.int z10), .val (.int (p1 &&& (15 : Int32))), .val (.int z11), .val (.int z12), .val (.int z13), .unset, .unset, .unset, .unset, .unset, .unset, .unset, .unset, .unset, .unset, .unset] [(.ref b19), (.ref b15), (.ref b14), (.ref b14)]))
      refine own_go (fun _ k => XS.dup X19.here hx rfl (hb hby at_115) rfl rfl k) ?_
      refine own_go (fun _ k => XS.iconst X19.here hx rfl (hb hby at_116) k) ?_
      refine own_go (fun _ k => XS.iloadN X19.here hx rfl (hb hby at_117) rfl k) ?_
      obtain ⟨T20, h20, X20, e20, W20, A_b19_20, st20⟩ := own_stI X19 hx hZ e19 A_b19_19 (j := (0 : Int32)) ⟨by decide, by decide⟩ (g := (mkF m 118 #[.val (.int p0), .val (.int p1), .val (.int p2), .val (.int p3), .val (.int p4), .val (.int (p0 &&& (7 : Int32))), .val (.int z1), .val (.int z2), .val (.int z6), .val (.int z10), .val (.int (p1 &&& (15 : Int32))), .val (.int z11), .val (.int z12), .val (.int z13), .unset, .unset, .unset, .unset, .unset, .unset, .unset, .unset, .unset, .unset, .unset] [(.int p2), (.int (0 : Int32)), (.ref b19), (.ref b19), (.ref b15), (.ref b14), (.ref b14)])) rfl rfl (hb hby at_118)
      have E_b14_20 := E_b14_19.wr W20
      have F_search_b14_20 := F_search_b14_19.other W20 (Or.inl ne_b14_b19)
      have F_runs_b14_20 := F_runs_b14_19.other W20 (Or.inl ne_b14_b19)
      have F_numbers_b14_20 := F_numbers_b14_19.other W20 (Or.inl ne_b14_b19)
      have F_elements_b14_20 := F_elements_b14_19.other W20 (Or.inl ne_b14_b19)
      have F_foundIn_b14_20 := F_foundIn_b14_19.other W20 (Or.inl ne_b14_b19)
      have F_next_b14_20 := F_next_b14_19.other W20 (Or.inl ne_b14_b19)
      have F_found_b14_20 := F_found_b14_19.other W20 (Or.inl ne_b14_b19)
      have F_bucketShift_b14_20 := F_bucketShift_b14_19.other W20 (Or.inl ne_b14_b19)
      have F_bucketStart_b14_20 := F_bucketStart_b14_19.other W20 (Or.inl ne_b14_b19)
      have F_foundCount_b14_20 := F_foundCount_b14_19.other W20 (Or.inl ne_b14_b19)
      have F_firstOnly_b14_20 := F_firstOnly_b14_19.other W20 (Or.inl ne_b14_b19)
      have F_forRuns_b14_20 := F_forRuns_b14_19.other W20 (Or.inl ne_b14_b19)
      have F_runsLength_b14_20 := F_runsLength_b14_19.other W20 (Or.inl ne_b14_b19)
      have A_b15_20 := A_b15_19.other W20 ne_b15_b19
      have N20 := Fr.snoc X20 N18 ge_b19
      have Z20 : n0 ≤ h20.size := Nat.le_trans Z19 (Keep.of_wr W20).1
      obtain ⟨f20, hf20⟩ : ∃ z, z = (own_set (fun _ => (0 : Int32)) (0 : Int32) p2) := ⟨_, rfl⟩
      rw [← hf20] at A_b19_20
      refine own_go (fun tg k => st20 tg k) ?_
      show own_Fin _ _ _ _ _ _ _ (T20.setTop (mkF m 119 #[.val (.int p0), .val (.int p1), .val (.int p2), .val (.int p3), .val (.int p4), .val (.int (p0 &&& (7 : Int32))), .val (.int z1), .val (.int z2), .val (.int z6), .val (.int z10), .val (.int (p1 &&& (15 : Int32))), .val (.int z11), .val (.int z12), .val (.int z13), .unset, .unset, .unset, .unset, .unset, .unset, .unset, .unset, .unset, .unset, .unset] [(.ref b19), (.ref b15), (.ref b14), (.ref b14)]))
      refine own_go (fun _ k => XS.dup X20.here hx rfl (hb hby at_119) rfl rfl k) ?_
      refine own_go (fun _ k => XS.iconst X20.here hx rfl (hb hby at_120) k) ?_
      refine own_go (fun _ k => XS.iloadN X20.here hx rfl (hb hby at_121) rfl k) ?_
      obtain ⟨T21, h21, X21, e21, W21, A_b19_21, st21⟩ := own_stI X20 hx hZ e20 A_b19_20 (j := (1 : Int32)) ⟨by decide, by decide⟩ (g := (mkF m 122 #[.val (.int p0), .val (.int p1), .val (.int p2), .val (.int p3), .val (.int p4), .val (.int (p0 &&& (7 : Int32))), .val (.int z1), .val (.int z2), .val (.int z6), .val (.int z10), .val (.int (p1 &&& (15 : Int32))), .val (.int z11), .val (.int z12), .val (.int z13), .unset, .unset, .unset, .unset, .unset, .unset, .unset, .unset, .unset, .unset, .unset] [(.int p3), (.int (1 : Int32)), (.ref b19), (.ref b19), (.ref b15), (.ref b14), (.ref b14)])) rfl rfl (hb hby at_122)
      have E_b14_21 := E_b14_20.wr W21
      have F_search_b14_21 := F_search_b14_20.other W21 (Or.inl ne_b14_b19)
      have F_runs_b14_21 := F_runs_b14_20.other W21 (Or.inl ne_b14_b19)
      have F_numbers_b14_21 := F_numbers_b14_20.other W21 (Or.inl ne_b14_b19)
      have F_elements_b14_21 := F_elements_b14_20.other W21 (Or.inl ne_b14_b19)
      have F_foundIn_b14_21 := F_foundIn_b14_20.other W21 (Or.inl ne_b14_b19)
      have F_next_b14_21 := F_next_b14_20.other W21 (Or.inl ne_b14_b19)
      have F_found_b14_21 := F_found_b14_20.other W21 (Or.inl ne_b14_b19)
      have F_bucketShift_b14_21 := F_bucketShift_b14_20.other W21 (Or.inl ne_b14_b19)
      have F_bucketStart_b14_21 := F_bucketStart_b14_20.other W21 (Or.inl ne_b14_b19)
      have F_foundCount_b14_21 := F_foundCount_b14_20.other W21 (Or.inl ne_b14_b19)
      have F_firstOnly_b14_21 := F_firstOnly_b14_20.other W21 (Or.inl ne_b14_b19)
      have F_forRuns_b14_21 := F_forRuns_b14_20.other W21 (Or.inl ne_b14_b19)
      have F_runsLength_b14_21 := F_runsLength_b14_20.other W21 (Or.inl ne_b14_b19)
      have A_b15_21 := A_b15_20.other W21 ne_b15_b19
      have N21 := Fr.snoc X21 N20 ge_b19
      have Z21 : n0 ≤ h21.size := Nat.le_trans Z20 (Keep.of_wr W21).1
      obtain ⟨f21, hf21⟩ : ∃ z, z = (own_set f20 (1 : Int32) p3) := ⟨_, rfl⟩
      rw [← hf21] at A_b19_21
      refine own_go (fun tg k => st21 tg k) ?_
      show own_Fin _ _ _ _ _ _ _ (T21.setTop (mkF m 123 #[.val (.int p0), .val (.int p1), .val (.int p2), .val (.int p3), .val (.int p4), .val (.int (p0 &&& (7 : Int32))), .val (.int z1), .val (.int z2), .val (.int z6), .val (.int z10), .val (.int (p1 &&& (15 : Int32))), .val (.int z11), .val (.int z12), .val (.int z13), .unset, .unset, .unset, .unset, .unset, .unset, .unset, .unset, .unset, .unset, .unset] [(.ref b19), (.ref b15), (.ref b14), (.ref b14)]))
      refine own_go (fun _ k => XS.dup X21.here hx rfl (hb hby at_123) rfl rfl k) ?_
      refine own_go (fun _ k => XS.iconst X21.here hx rfl (hb hby at_124) k) ?_
      refine own_go (fun _ k => XS.iload X21.here hx rfl (hb hby at_125) rfl k) ?_
      obtain ⟨T22, h22, X22, e22, W22, A_b19_22, st22⟩ := own_stI X21 hx hZ e21 A_b19_21 (j := (2 : Int32)) ⟨by decide, by decide⟩ (g := (mkF m 127 #[.val (.int p0), .val (.int p1), .val (.int p2), .val (.int p3), .val (.int p4), .val (.int (p0 &&& (7 : Int32))), .val (.int z1), .val (.int z2), .val (.int z6), .val (.int z10), .val (.int (p1 &&& (15 : Int32))), .val (.int z11), .val (.int z12), .val (.int z13), .unset, .unset, .unset, .unset, .unset, .unset, .unset, .unset, .unset, .unset, .unset] [(.int p4), (.int (2 : Int32)), (.ref b19), (.ref b19), (.ref b15), (.ref b14), (.ref b14)])) rfl rfl (hb hby at_127)
      have E_b14_22 := E_b14_21.wr W22
      have F_search_b14_22 := F_search_b14_21.other W22 (Or.inl ne_b14_b19)
      have F_runs_b14_22 := F_runs_b14_21.other W22 (Or.inl ne_b14_b19)
      have F_numbers_b14_22 := F_numbers_b14_21.other W22 (Or.inl ne_b14_b19)
      have F_elements_b14_22 := F_elements_b14_21.other W22 (Or.inl ne_b14_b19)
      have F_foundIn_b14_22 := F_foundIn_b14_21.other W22 (Or.inl ne_b14_b19)
      have F_next_b14_22 := F_next_b14_21.other W22 (Or.inl ne_b14_b19)
      have F_found_b14_22 := F_found_b14_21.other W22 (Or.inl ne_b14_b19)
      have F_bucketShift_b14_22 := F_bucketShift_b14_21.other W22 (Or.inl ne_b14_b19)
      have F_bucketStart_b14_22 := F_bucketStart_b14_21.other W22 (Or.inl ne_b14_b19)
      have F_foundCount_b14_22 := F_foundCount_b14_21.other W22 (Or.inl ne_b14_b19)
      have F_firstOnly_b14_22 := F_firstOnly_b14_21.other W22 (Or.inl ne_b14_b19)
      have F_forRuns_b14_22 := F_forRuns_b14_21.other W22 (Or.inl ne_b14_b19)
      have F_runsLength_b14_22 := F_runsLength_b14_21.other W22 (Or.inl ne_b14_b19)
      have A_b15_22 := A_b15_21.other W22 ne_b15_b19
      have N22 := Fr.snoc X22 N21 ge_b19
      have Z22 : n0 ≤ h22.size := Nat.le_trans Z21 (Keep.of_wr W22).1
      obtain ⟨f22, hf22⟩ : ∃ z, z = (own_set f21 (2 : Int32) p4) := ⟨_, rfl⟩
      rw [← hf22] at A_b19_22
      refine own_go (fun tg k => st22 tg k) ?_
      show own_Fin _ _ _ _ _ _ _ (T22.setTop (mkF m 128 #[.val (.int p0), .val (.int p1), .val (.int p2), .val (.int p3), .val (.int p4), .val (.int (p0 &&& (7 : Int32))), .val (.int z1), .val (.int z2), .val (.int z6), .val (.int z10), .val (.int (p1 &&& (15 : Int32))), .val (.int z11), .val (.int z12), .val (.int z13), .unset, .unset, .unset, .unset, .unset, .unset, .unset, .unset, .unset, .unset, .unset] [(.ref b19), (.ref b15), (.ref b14), (.ref b14)]))
      obtain ⟨_, _, ⟨T23, L23, k23, n23⟩, -, X23, ⟨Lc23, hQ23, l23, y23, z23⟩, st23⟩ := X22.specialBack hx (y := (⟨"com/example/reachability/reachability/CandidateList", "<init>", "([I[I)V"⟩ : MethodName)) rfl hown (mvT hZ (hw _ (List.mem_of_getElem? (i := 4) rfl))) (mvT hZ (hw _ (List.mem_of_getElem? (i := 5) rfl))) (mvT hZ (hw _ (List.mem_of_getElem? (i := 6) rfl))) (by decide) (backOf (W := 1) (rm1 l Z a0 hw [] b14 b15 b19 f18 h22 n0 Z22 E_b14_22 F_search_b14_22 F_runs_b14_22 F_numbers_b14_22 F_elements_b14_22 F_foundIn_b14_22 F_next_b14_22 F_found_b14_22 F_bucketShift_b14_22 F_bucketStart_b14_22 F_foundCount_b14_22 F_firstOnly_b14_22 F_forRuns_b14_22 F_runsLength_b14_22 A_b15_22 ge_b14 (by rw [hf18]; rw [hf17]; rw [hf16]; rw [← hz2]; rw [← hz1]; exact own_m2srt _)) hZ (hw _ (List.mem_of_getElem? (i := 6) rfl)) (hw _ (List.mem_of_getElem? (i := 2) rfl)) (by decide) (by decide)) (g := (mkF m 128 #[.val (.int p0), .val (.int p1), .val (.int p2), .val (.int p3), .val (.int p4), .val (.int (p0 &&& (7 : Int32))), .val (.int z1), .val (.int z2), .val (.int z6), .val (.int z10), .val (.int (p1 &&& (15 : Int32))), .val (.int z11), .val (.int z12), .val (.int z13), .unset, .unset, .unset, .unset, .unset, .unset, .unset, .unset, .unset, .unset, .unset] [(.ref b19), (.ref b15), (.ref b14), (.ref b14)])) rfl (by rw [hml]; rfl) (Steps.refl _) (a := b14) (argsL := [(.ref b15), (.ref b19)]) (rest := [(.ref b14)]) (lenOf own_pd570 rfl) rfl (by show 2 * 0 + _ ≤ _; exact Nat.le_of_eq rfl) (hb hby at_128) (fun _ _ => ⟨rfl, e22, (by decide : 3 + 5 ≤ _), (by decide : 19 + 21 ≤ _)⟩)
      dsimp only [Pt.U, Pt.locs, Pt.cells, Pt.slots] at X23 l23 y23 z23 st23 hQ23
      replace y23 : 8 = k23 := y23.symm
      replace z23 : 40 = n23 := z23.symm
      subst y23 z23
      obtain ⟨b23rF, b23rX, b23rD, b23rB, gB23, rfl, N23q, Kq23, szq_b23rF, szq_b23rX, szq_b23rD, szq_b23rB, E_b14_23, F_search_b14_23, F_numbers_b14_23, F_elements_b14_23, F_foundIn_b14_23, F_next_b14_23, F_found_b14_23, F_bucketShift_b14_23, F_bucketStart_b14_23, F_foundCount_b14_23, F_firstOnly_b14_23, F_forRuns_b14_23, F_runsLength_b14_23, A_b23rF_23, A_b23rX_23, A_b23rD_23, A_b23rB_23, ne_b23rF_b23rX, ne_b23rF_b23rD, ne_b23rF_b23rB, ne_b23rX_b23rD, ne_b23rX_b23rB, ne_b23rD_b23rB, Pq23_23⟩ := hQ23
      have N23 : Fr n0 L23 := by rw [l23]; exact Fr.app N22 N23q
      have ne_b14_b23rF : b14 ≠ b23rF := Nat.ne_of_lt (Nat.lt_of_lt_of_le E_b14_22.lt szq_b23rF)
      have ne_b15_b23rF : b15 ≠ b23rF := Nat.ne_of_lt (Nat.lt_of_lt_of_le A_b15_22.lt szq_b23rF)
      have ne_b19_b23rF : b19 ≠ b23rF := Nat.ne_of_lt (Nat.lt_of_lt_of_le A_b19_22.lt szq_b23rF)
      have ge_b23rF : n0 ≤ b23rF := Nat.le_trans Z22 szq_b23rF
      have ne_b14_b23rX : b14 ≠ b23rX := Nat.ne_of_lt (Nat.lt_of_lt_of_le E_b14_22.lt szq_b23rX)
      have ne_b15_b23rX : b15 ≠ b23rX := Nat.ne_of_lt (Nat.lt_of_lt_of_le A_b15_22.lt szq_b23rX)
      have ne_b19_b23rX : b19 ≠ b23rX := Nat.ne_of_lt (Nat.lt_of_lt_of_le A_b19_22.lt szq_b23rX)
      have ge_b23rX : n0 ≤ b23rX := Nat.le_trans Z22 szq_b23rX
      have ne_b14_b23rD : b14 ≠ b23rD := Nat.ne_of_lt (Nat.lt_of_lt_of_le E_b14_22.lt szq_b23rD)
      have ne_b15_b23rD : b15 ≠ b23rD := Nat.ne_of_lt (Nat.lt_of_lt_of_le A_b15_22.lt szq_b23rD)
      have ne_b19_b23rD : b19 ≠ b23rD := Nat.ne_of_lt (Nat.lt_of_lt_of_le A_b19_22.lt szq_b23rD)
      have ge_b23rD : n0 ≤ b23rD := Nat.le_trans Z22 szq_b23rD
      have ne_b14_b23rB : b14 ≠ b23rB := Nat.ne_of_lt (Nat.lt_of_lt_of_le E_b14_22.lt szq_b23rB)
      have ne_b15_b23rB : b15 ≠ b23rB := Nat.ne_of_lt (Nat.lt_of_lt_of_le A_b15_22.lt szq_b23rB)
      have ne_b19_b23rB : b19 ≠ b23rB := Nat.ne_of_lt (Nat.lt_of_lt_of_le A_b19_22.lt szq_b23rB)
      have ge_b23rB : n0 ≤ b23rB := Nat.le_trans Z22 szq_b23rB
      have A_b15_23 := A_b15_22.keep Kq23 (ninS (Ne.symm ne_b14_b15) nin0)
      have A_b19_23 := A_b19_22.keep Kq23 (ninS (Ne.symm ne_b14_b19) nin0)
      have Z23 : n0 ≤ T23.heap.size := Nat.le_trans Z22 Kq23.1
      refine own_go (fun tg k => st23.trans k) ?_
      show own_Fin _ _ _ _ _ _ _ (T23.setTop (mkF m 131 #[.val (.int p0), .val (.int p1), .val (.int p2), .val (.int p3), .val (.int p4), .val (.int (p0 &&& (7 : Int32))), .val (.int z1), .val (.int z2), .val (.int z6), .val (.int z10), .val (.int (p1 &&& (15 : Int32))), .val (.int z11), .val (.int z12), .val (.int z13), .unset, .unset, .unset, .unset, .unset, .unset, .unset, .unset, .unset, .unset, .unset] [(.ref b14)]))
      refine own_go (fun _ k => XS.astore X23.here hx rfl (hb hby at_131) rfl rfl (l' := #[.val (.int p0), .val (.int p1), .val (.int p2), .val (.int p3), .val (.int p4), .val (.int (p0 &&& (7 : Int32))), .val (.int z1), .val (.int z2), .val (.int z6), .val (.int z10), .val (.int (p1 &&& (15 : Int32))), .val (.int z11), .val (.int z12), .val (.int z13), .val (.ref b14), .unset, .unset, .unset, .unset, .unset, .unset, .unset, .unset, .unset, .unset]) rfl k) ?_
      show own_Fin _ _ _ _ _ _ _ (T23.setTop (mkF m 133 #[.val (.int p0), .val (.int p1), .val (.int p2), .val (.int p3), .val (.int p4), .val (.int (p0 &&& (7 : Int32))), .val (.int z1), .val (.int z2), .val (.int z6), .val (.int z10), .val (.int (p1 &&& (15 : Int32))), .val (.int z11), .val (.int z12), .val (.int z13), .val (.ref b14), .unset, .unset, .unset, .unset, .unset, .unset, .unset, .unset, .unset, .unset] []))
      refine own_go (fun _ k => XS.aload X23.here hx rfl (hb hby at_133) rfl rfl k) ?_
      refine own_go (fun _ k => XS.iload X23.here hx rfl (hb hby at_135) rfl k) ?_
      obtain ⟨cq24, kq24, q24a, q24b, q24c⟩ := isOf hZ rfl E_b14_23
      obtain ⟨_, _, ⟨T24, L24, k24, n24⟩, -, X24, ⟨Lc24, hQ24, l24, y24, z24⟩, st24⟩ := X23.virtualBack hx (y := (⟨"com/example/reachability/reachability/CandidateList", "reset", "(Z)V"⟩ : MethodName)) (z := (⟨"com/example/reachability/reachability/CandidateList", "reset", "(Z)V"⟩ : MethodName)) hown (mvT hZ (hw _ (List.mem_of_getElem? (i := 38) rfl))) (mvT hZ (hw _ (List.mem_of_getElem? (i := 39) rfl))) (notFace_of_selects (args := #[]) (mvT hZ (hw _ (List.mem_of_getElem? (i := 41) rfl)))) (mvT hZ (hw _ (List.mem_of_getElem? (i := 41) rfl))) (mvT hZ (hw _ (List.mem_of_getElem? (i := 40) rfl))) (by decide) (backOf (W := 0) (rm6 l Z a0 hw [] b14 z6 b15 b19 b23rF b23rX b23rD (own_f3 f18) b23rB (1 : Int32) (0 : Int32) (0 : Int32) (0 : Int32) (0 : Int32) T23.heap n0 Z23 F_numbers_b14_23 F_elements_b14_23 F_foundIn_b14_23 F_next_b14_23 F_found_b14_23 F_bucketShift_b14_23 F_bucketStart_b14_23 E_b14_23 F_search_b14_23 F_foundCount_b14_23 F_firstOnly_b14_23 F_forRuns_b14_23 F_runsLength_b14_23 ge_b14 (by decide)) hZ (hw _ (List.mem_of_getElem? (i := 42) rfl)) (hw _ (List.mem_of_getElem? (i := 2) rfl)) (by decide) (by decide)) q24a q24c (g := (mkF m 137 #[.val (.int p0), .val (.int p1), .val (.int p2), .val (.int p3), .val (.int p4), .val (.int (p0 &&& (7 : Int32))), .val (.int z1), .val (.int z2), .val (.int z6), .val (.int z10), .val (.int (p1 &&& (15 : Int32))), .val (.int z11), .val (.int z12), .val (.int z13), .val (.ref b14), .unset, .unset, .unset, .unset, .unset, .unset, .unset, .unset, .unset, .unset] [(.int z6), (.ref b14)])) rfl (by rw [hml]; rfl) (Steps.refl _) (argsL := [(.int z6)]) (rest := []) (lenOf own_pd571 rfl) rfl (by show 2 * 0 + _ ≤ _; exact Nat.le_of_eq rfl) (hb hby at_137) (fun _ _ => ⟨rfl, rfl, (by decide : 8 + 0 ≤ _), (by decide : 40 + 0 ≤ _)⟩)
      dsimp only [Pt.U, Pt.locs, Pt.cells, Pt.slots] at X24 l24 y24 z24 st24 hQ24
      replace y24 : 8 = k24 := y24.symm
      replace z24 : 40 = n24 := z24.symm
      subst y24 z24
      obtain ⟨rfl, N24q, Kq24, F_numbers_b14_24, F_elements_b14_24, F_foundIn_b14_24, F_next_b14_24, F_found_b14_24, F_bucketShift_b14_24, F_bucketStart_b14_24, E_b14_24, F_search_b14_24, F_foundCount_b14_24, F_firstOnly_b14_24, F_forRuns_b14_24, F_runsLength_b14_24⟩ := hQ24
      have N24 : Fr n0 L24 := by rw [l24]; exact Fr.app N23 N24q
      have A_b15_24 := A_b15_23.keep Kq24 (ninS (Ne.symm ne_b14_b15) nin0)
      have A_b19_24 := A_b19_23.keep Kq24 (ninS (Ne.symm ne_b14_b19) nin0)
      have A_b23rF_24 := A_b23rF_23.keep Kq24 (ninS (Ne.symm ne_b14_b23rF) nin0)
      have A_b23rX_24 := A_b23rX_23.keep Kq24 (ninS (Ne.symm ne_b14_b23rX) nin0)
      have A_b23rD_24 := A_b23rD_23.keep Kq24 (ninS (Ne.symm ne_b14_b23rD) nin0)
      have A_b23rB_24 := A_b23rB_23.keep Kq24 (ninS (Ne.symm ne_b14_b23rB) nin0)
      have Z24 : n0 ≤ T24.heap.size := Nat.le_trans Z23 Kq24.1
      refine own_go (fun tg k => st24.trans k) ?_
      show own_Fin _ _ _ _ _ _ _ (T24.setTop (mkF m 140 #[.val (.int p0), .val (.int p1), .val (.int p2), .val (.int p3), .val (.int p4), .val (.int (p0 &&& (7 : Int32))), .val (.int z1), .val (.int z2), .val (.int z6), .val (.int z10), .val (.int (p1 &&& (15 : Int32))), .val (.int z11), .val (.int z12), .val (.int z13), .val (.ref b14), .unset, .unset, .unset, .unset, .unset, .unset, .unset, .unset, .unset, .unset] []))
      refine own_go (fun _ k => XS.aload X24.here hx rfl (hb hby at_140) rfl rfl k) ?_
      refine own_go (fun _ k => XS.iload X24.here hx rfl (hb hby at_142) rfl k) ?_
      refine own_go (fun _ k => XS.iload X24.here hx rfl (hb hby at_144) rfl k) ?_
      obtain ⟨cq25, kq25, q25a, q25b, q25c⟩ := isOf hZ rfl E_b14_24
      obtain ⟨_, _, ⟨T25, L25, k25, n25⟩, -, X25, ⟨Lc25, hQ25, l25, y25, z25⟩, st25⟩ := X24.virtualBack hx (y := (⟨"com/example/reachability/reachability/CandidateList", "find", "(II)I"⟩ : MethodName)) (z := (⟨"com/example/reachability/reachability/CandidateList", "find", "(II)I"⟩ : MethodName)) hown (mvT hZ (hw _ (List.mem_of_getElem? (i := 52) rfl))) (mvT hZ (hw _ (List.mem_of_getElem? (i := 53) rfl))) (notFace_of_selects (args := #[]) (mvT hZ (hw _ (List.mem_of_getElem? (i := 55) rfl)))) (mvT hZ (hw _ (List.mem_of_getElem? (i := 55) rfl))) (mvT hZ (hw _ (List.mem_of_getElem? (i := 54) rfl))) (by decide) (backOf (W := 0) (rm7 l Z a0 hw [] b14 (p1 &&& (15 : Int32)) z11 b15 b19 b23rF b23rX b23rD (own_f3 f18) b23rB ((1 : Int32) + (1 : Int32)) (z6 &&& 1) (0 : Int32) f18 (fun _ => (0 : Int32)) (fun _ => (0 : Int32)) (fun _ => (0 : Int32)) ((own_iushr (f18 2) (own_f3 f18)) + (2 : Int32)) gB23 T24.heap n0 Z24 F_numbers_b14_24 F_elements_b14_24 F_foundIn_b14_24 F_next_b14_24 F_found_b14_24 F_bucketShift_b14_24 F_bucketStart_b14_24 E_b14_24 F_search_b14_24 F_foundCount_b14_24 F_firstOnly_b14_24 A_b15_24 A_b23rF_24 A_b23rX_24 A_b23rD_24 A_b23rB_24 ge_b14 ge_b23rF ge_b23rX ge_b23rD ne_b15_b23rF ne_b15_b23rX ne_b15_b23rD ne_b15_b23rB ne_b23rF_b23rX ne_b23rF_b23rD ne_b23rF_b23rB ne_b23rX_b23rD ne_b23rX_b23rB ne_b23rD_b23rB ⟨(own_f8v (by rw [hf18]; rw [hf17]; rw [hf16]; rw [← hz2]; rw [← hz1]; exact own_m2srt _) Pq23_23 _ (own_m15 _)).1, own_inv0 _, own_ok0 _⟩) hZ (hw _ (List.mem_of_getElem? (i := 56) rfl)) (hw _ (List.mem_of_getElem? (i := 2) rfl)) (by decide) (by decide)) q25a q25c (g := (mkF m 146 #[.val (.int p0), .val (.int p1), .val (.int p2), .val (.int p3), .val (.int p4), .val (.int (p0 &&& (7 : Int32))), .val (.int z1), .val (.int z2), .val (.int z6), .val (.int z10), .val (.int (p1 &&& (15 : Int32))), .val (.int z11), .val (.int z12), .val (.int z13), .val (.ref b14), .unset, .unset, .unset, .unset, .unset, .unset, .unset, .unset, .unset, .unset] [(.int z11), (.int (p1 &&& (15 : Int32))), (.ref b14)])) rfl (by rw [hml]; rfl) (Steps.refl _) (argsL := [(.int (p1 &&& (15 : Int32))), (.int z11)]) (rest := []) (lenOf own_pd9 rfl) rfl (by show 2 * 0 + _ ≤ _; exact Nat.le_of_eq rfl) (hb hby at_146) (fun _ _ => ⟨rfl, rfl, (by decide : 8 + 0 ≤ _), (by decide : 40 + 0 ≤ _)⟩)
      dsimp only [Pt.U, Pt.locs, Pt.cells, Pt.slots] at X25 l25 y25 z25 st25 hQ25
      replace y25 : 8 = k25 := y25.symm
      replace z25 : 40 = n25 := z25.symm
      subst y25 z25
      obtain ⟨vr25, gY25, rfl, N25q, Kq25, F_numbers_b14_25, F_elements_b14_25, F_foundIn_b14_25, F_next_b14_25, F_found_b14_25, F_bucketShift_b14_25, F_bucketStart_b14_25, E_b14_25, F_search_b14_25, F_foundCount_b14_25, F_firstOnly_b14_25, A_b23rF_25, A_b23rX_25, A_b23rD_25, Pq25_14⟩ := hQ25
      have N25 : Fr n0 L25 := by rw [l25]; exact Fr.app N24 N25q
      have A_b15_25 := A_b15_24.keep Kq25 (ninS (Ne.symm ne_b14_b15) (ninS ne_b15_b23rF (ninS ne_b15_b23rX (ninS ne_b15_b23rD nin0))))
      have A_b19_25 := A_b19_24.keep Kq25 (ninS (Ne.symm ne_b14_b19) (ninS ne_b19_b23rF (ninS ne_b19_b23rX (ninS ne_b19_b23rD nin0))))
      have A_b23rB_25 := A_b23rB_24.keep Kq25 (ninS (Ne.symm ne_b14_b23rB) (ninS (Ne.symm ne_b23rF_b23rB) (ninS (Ne.symm ne_b23rX_b23rB) (ninS (Ne.symm ne_b23rD_b23rB) nin0))))
      have Z25 : n0 ≤ T25.heap.size := Nat.le_trans Z24 Kq25.1
      refine own_go (fun tg k => st25.trans k) ?_
      show own_Fin _ _ _ _ _ _ _ (T25.setTop (mkF m 149 #[.val (.int p0), .val (.int p1), .val (.int p2), .val (.int p3), .val (.int p4), .val (.int (p0 &&& (7 : Int32))), .val (.int z1), .val (.int z2), .val (.int z6), .val (.int z10), .val (.int (p1 &&& (15 : Int32))), .val (.int z11), .val (.int z12), .val (.int z13), .val (.ref b14), .unset, .unset, .unset, .unset, .unset, .unset, .unset, .unset, .unset, .unset] [(.int vr25)]))
      refine own_go (fun _ k => XS.pop X25.here hx rfl (hb hby at_149) rfl rfl k) ?_
      show own_Fin _ _ _ _ _ _ _ (T25.setTop (mkF m 150 #[.val (.int p0), .val (.int p1), .val (.int p2), .val (.int p3), .val (.int p4), .val (.int (p0 &&& (7 : Int32))), .val (.int z1), .val (.int z2), .val (.int z6), .val (.int z10), .val (.int (p1 &&& (15 : Int32))), .val (.int z11), .val (.int z12), .val (.int z13), .val (.ref b14), .unset, .unset, .unset, .unset, .unset, .unset, .unset, .unset, .unset, .unset] []))
      refine own_go (fun _ k => XS.iload X25.here hx rfl (hb hby at_150) rfl k) ?_
      show own_Fin _ _ _ _ _ _ _ (T25.setTop (mkF m 152 #[.val (.int p0), .val (.int p1), .val (.int p2), .val (.int p3), .val (.int p4), .val (.int (p0 &&& (7 : Int32))), .val (.int z1), .val (.int z2), .val (.int z6), .val (.int z10), .val (.int (p1 &&& (15 : Int32))), .val (.int z11), .val (.int z12), .val (.int z13), .val (.ref b14), .unset, .unset, .unset, .unset, .unset, .unset, .unset, .unset, .unset, .unset] [(.int z10)]))
      have hk27 : ∀ (T' : State) (L' : List Loc) (H' : Heap), Stand p l e room_1 s m #[(.int p0), (.int p1), (.int p2), (.int p3), (.int p4)] below meth c T' L' 8 40 → Fr n0 L' → T'.heap = H' → n0 ≤ H'.size → Exa Z H' b14 "com/example/reachability/reachability/CandidateList" → Fld Z H' b14 "com/example/reachability/reachability/CandidateList" "search" "I" (.int ((1 : Int32) + (1 : Int32))) → Fld Z H' b14 "com/example/reachability/reachability/CandidateList" "numbers" "[I" (.ref b15) → Fld Z H' b14 "com/example/reachability/reachability/CandidateList" "elements" "[I" (.ref b19) → Fld Z H' b14 "com/example/reachability/reachability/CandidateList" "foundIn" "[I" (.ref b23rF) → Fld Z H' b14 "com/example/reachability/reachability/CandidateList" "next" "[I" (.ref b23rX) → Fld Z H' b14 "com/example/reachability/reachability/CandidateList" "found" "[I" (.ref b23rD) → Fld Z H' b14 "com/example/reachability/reachability/CandidateList" "bucketShift" "I" (.int (own_f3 f18)) → Fld Z H' b14 "com/example/reachability/reachability/CandidateList" "bucketStart" "[I" (.ref b23rB) → Fld Z H' b14 "com/example/reachability/reachability/CandidateList" "foundCount" "I" (.int (if z10 = (0 : Int32) then (own_find (p1 &&& (15 : Int32)) z11 (own_f3 f18) ((own_iushr (f18 2) (own_f3 f18)) + (2 : Int32)) gB23 f18 (z6 &&& 1) ((1 : Int32) + (1 : Int32)) (0 : Int32) (fun _ => (0 : Int32)) (fun _ => (0 : Int32))).1 else (own_find z12 z13 (own_f3 f18) ((own_iushr (f18 2) (own_f3 f18)) + (2 : Int32)) gB23 f18 (z6 &&& 1) ((1 : Int32) + (1 : Int32)) (own_find (p1 &&& (15 : Int32)) z11 (own_f3 f18) ((own_iushr (f18 2) (own_f3 f18)) + (2 : Int32)) gB23 f18 (z6 &&& 1) ((1 : Int32) + (1 : Int32)) (0 : Int32) (fun _ => (0 : Int32)) (fun _ => (0 : Int32))).1 (own_find (p1 &&& (15 : Int32)) z11 (own_f3 f18) ((own_iushr (f18 2) (own_f3 f18)) + (2 : Int32)) gB23 f18 (z6 &&& 1) ((1 : Int32) + (1 : Int32)) (0 : Int32) (fun _ => (0 : Int32)) (fun _ => (0 : Int32))).2.1 (own_find (p1 &&& (15 : Int32)) z11 (own_f3 f18) ((own_iushr (f18 2) (own_f3 f18)) + (2 : Int32)) gB23 f18 (z6 &&& 1) ((1 : Int32) + (1 : Int32)) (0 : Int32) (fun _ => (0 : Int32)) (fun _ => (0 : Int32))).2.2).1)) → Fld Z H' b14 "com/example/reachability/reachability/CandidateList" "firstOnly" "Z" (.int (z6 &&& 1)) → own_Arf Z H' b15 .int (3 : Int32) (fun i => .int (f18 i)) → own_Arf Z H' b19 .int (3 : Int32) (fun i => .int (f22 i)) → own_Arf Z H' b23rD .int (3 : Int32) (fun i => .int ((if z10 = (0 : Int32) then (own_find (p1 &&& (15 : Int32)) z11 (own_f3 f18) ((own_iushr (f18 2) (own_f3 f18)) + (2 : Int32)) gB23 f18 (z6 &&& 1) ((1 : Int32) + (1 : Int32)) (0 : Int32) (fun _ => (0 : Int32)) (fun _ => (0 : Int32))).2.2 else (own_find z12 z13 (own_f3 f18) ((own_iushr (f18 2) (own_f3 f18)) + (2 : Int32)) gB23 f18 (z6 &&& 1) ((1 : Int32) + (1 : Int32)) (own_find (p1 &&& (15 : Int32)) z11 (own_f3 f18) ((own_iushr (f18 2) (own_f3 f18)) + (2 : Int32)) gB23 f18 (z6 &&& 1) ((1 : Int32) + (1 : Int32)) (0 : Int32) (fun _ => (0 : Int32)) (fun _ => (0 : Int32))).1 (own_find (p1 &&& (15 : Int32)) z11 (own_f3 f18) ((own_iushr (f18 2) (own_f3 f18)) + (2 : Int32)) gB23 f18 (z6 &&& 1) ((1 : Int32) + (1 : Int32)) (0 : Int32) (fun _ => (0 : Int32)) (fun _ => (0 : Int32))).2.1 (own_find (p1 &&& (15 : Int32)) z11 (own_f3 f18) ((own_iushr (f18 2) (own_f3 f18)) + (2 : Int32)) gB23 f18 (z6 &&& 1) ((1 : Int32) + (1 : Int32)) (0 : Int32) (fun _ => (0 : Int32)) (fun _ => (0 : Int32))).2.2).2.2) i)) → own_Arf Z H' b23rB .int ((own_iushr (f18 2) (own_f3 f18)) + (2 : Int32)) (fun i => .int (gB23 i)) → own_Fin p.tables e below s (own_QL (some (.int (1 : Int32))) n0) 32 192 (T'.setTop (mkF m 165 #[.val (.int p0), .val (.int p1), .val (.int p2), .val (.int p3), .val (.int p4), .val (.int (p0 &&& (7 : Int32))), .val (.int z1), .val (.int z2), .val (.int z6), .val (.int z10), .val (.int (p1 &&& (15 : Int32))), .val (.int z11), .val (.int z12), .val (.int z13), .val (.ref b14), .unset, .unset, .unset, .unset, .unset, .unset, .unset, .unset, .unset, .unset] [])) := by
        intro T29 L29 h29j X29 N29 e29 Z29j E_b14_29j F_search_b14_29j F_numbers_b14_29j F_elements_b14_29j F_foundIn_b14_29j F_next_b14_29j F_found_b14_29j F_bucketShift_b14_29j F_bucketStart_b14_29j F_foundCount_b14_29j F_firstOnly_b14_29j A_b15_29j A_b19_29j A_b23rD_29j A_b23rB_29j
        obtain ⟨f30, hf30⟩ : ∃ z, z = (if z10 = (0 : Int32) then (own_find (p1 &&& (15 : Int32)) z11 (own_f3 f18) ((own_iushr (f18 2) (own_f3 f18)) + (2 : Int32)) gB23 f18 (z6 &&& 1) ((1 : Int32) + (1 : Int32)) (0 : Int32) (fun _ => (0 : Int32)) (fun _ => (0 : Int32))).1 else (own_find z12 z13 (own_f3 f18) ((own_iushr (f18 2) (own_f3 f18)) + (2 : Int32)) gB23 f18 (z6 &&& 1) ((1 : Int32) + (1 : Int32)) (own_find (p1 &&& (15 : Int32)) z11 (own_f3 f18) ((own_iushr (f18 2) (own_f3 f18)) + (2 : Int32)) gB23 f18 (z6 &&& 1) ((1 : Int32) + (1 : Int32)) (0 : Int32) (fun _ => (0 : Int32)) (fun _ => (0 : Int32))).1 (own_find (p1 &&& (15 : Int32)) z11 (own_f3 f18) ((own_iushr (f18 2) (own_f3 f18)) + (2 : Int32)) gB23 f18 (z6 &&& 1) ((1 : Int32) + (1 : Int32)) (0 : Int32) (fun _ => (0 : Int32)) (fun _ => (0 : Int32))).2.1 (own_find (p1 &&& (15 : Int32)) z11 (own_f3 f18) ((own_iushr (f18 2) (own_f3 f18)) + (2 : Int32)) gB23 f18 (z6 &&& 1) ((1 : Int32) + (1 : Int32)) (0 : Int32) (fun _ => (0 : Int32)) (fun _ => (0 : Int32))).2.2).1) := ⟨_, rfl⟩
        rw [← hf30] at F_foundCount_b14_29j
        obtain ⟨f31, hf31⟩ : ∃ z, z = (if z10 = (0 : Int32) then (own_find (p1 &&& (15 : Int32)) z11 (own_f3 f18) ((own_iushr (f18 2) (own_f3 f18)) + (2 : Int32)) gB23 f18 (z6 &&& 1) ((1 : Int32) + (1 : Int32)) (0 : Int32) (fun _ => (0 : Int32)) (fun _ => (0 : Int32))).2.2 else (own_find z12 z13 (own_f3 f18) ((own_iushr (f18 2) (own_f3 f18)) + (2 : Int32)) gB23 f18 (z6 &&& 1) ((1 : Int32) + (1 : Int32)) (own_find (p1 &&& (15 : Int32)) z11 (own_f3 f18) ((own_iushr (f18 2) (own_f3 f18)) + (2 : Int32)) gB23 f18 (z6 &&& 1) ((1 : Int32) + (1 : Int32)) (0 : Int32) (fun _ => (0 : Int32)) (fun _ => (0 : Int32))).1 (own_find (p1 &&& (15 : Int32)) z11 (own_f3 f18) ((own_iushr (f18 2) (own_f3 f18)) + (2 : Int32)) gB23 f18 (z6 &&& 1) ((1 : Int32) + (1 : Int32)) (0 : Int32) (fun _ => (0 : Int32)) (fun _ => (0 : Int32))).2.1 (own_find (p1 &&& (15 : Int32)) z11 (own_f3 f18) ((own_iushr (f18 2) (own_f3 f18)) + (2 : Int32)) gB23 f18 (z6 &&& 1) ((1 : Int32) + (1 : Int32)) (0 : Int32) (fun _ => (0 : Int32)) (fun _ => (0 : Int32))).2.2).2.2) := ⟨_, rfl⟩
        rw [← hf31] at A_b23rD_29j
        refine own_go (fun _ k => XS.aload X29.here hx rfl (hb hby at_165) rfl rfl k) ?_
        obtain ⟨cq32, kq32, q32a, q32b, q32c⟩ := isOf hZ e29 E_b14_29j
        obtain ⟨_, _, ⟨T32, L32, k32, n32⟩, -, X32, ⟨Lc32, hQ32, l32, y32, z32⟩, st32⟩ := X29.virtualBack hx (y := (⟨"com/example/reachability/reachability/CandidateList", "foundElements", "()[I"⟩ : MethodName)) (z := (⟨"com/example/reachability/reachability/CandidateList", "foundElements", "()[I"⟩ : MethodName)) hown (mvT hZ (hw _ (List.mem_of_getElem? (i := 70) rfl))) (mvT hZ (hw _ (List.mem_of_getElem? (i := 71) rfl))) (notFace_of_selects (args := #[]) (mvT hZ (hw _ (List.mem_of_getElem? (i := 73) rfl)))) (mvT hZ (hw _ (List.mem_of_getElem? (i := 73) rfl))) (mvT hZ (hw _ (List.mem_of_getElem? (i := 72) rfl))) (by decide) (backOf (W := 0) (rm11 l Z a0 hw [] b14 f30 b19 b23rD f22 f31 h29j n0 Z29j F_foundCount_b14_29j F_elements_b14_29j F_found_b14_29j A_b19_29j A_b23rD_29j (by rw [hf30, hf31]; exact own_feite (own_feok Pq25_14.2) (own_feok (own_fok (own_f8v (by rw [hf18]; rw [hf17]; rw [hf16]; rw [← hz2]; rw [← hz1]; exact own_m2srt _) Pq23_23 _ (by rw [← hz12]; exact own_m15 _)).1 Pq25_14.2)))) hZ (hw _ (List.mem_of_getElem? (i := 74) rfl)) (hw _ (List.mem_of_getElem? (i := 2) rfl)) (by decide) (by decide)) q32a q32c (g := (mkF m 167 #[.val (.int p0), .val (.int p1), .val (.int p2), .val (.int p3), .val (.int p4), .val (.int (p0 &&& (7 : Int32))), .val (.int z1), .val (.int z2), .val (.int z6), .val (.int z10), .val (.int (p1 &&& (15 : Int32))), .val (.int z11), .val (.int z12), .val (.int z13), .val (.ref b14), .unset, .unset, .unset, .unset, .unset, .unset, .unset, .unset, .unset, .unset] [(.ref b14)])) rfl (by rw [hml]; rfl) (Steps.refl _) (argsL := []) (rest := []) (lenOf own_pd572 rfl) rfl (by show 2 * 0 + _ ≤ _; exact Nat.le_of_eq rfl) (hb hby at_167) (fun _ _ => ⟨rfl, e29, (by decide : 8 + 1 ≤ _), (by decide : 40 + 3 ≤ _)⟩)
        dsimp only [Pt.U, Pt.locs, Pt.cells, Pt.slots] at X32 l32 y32 z32 st32 hQ32
        replace y32 : 9 = k32 := y32.symm
        replace z32 : 43 = n32 := z32.symm
        subst y32 z32
        obtain ⟨b32rb, gR32, rfl, N32q, Kq32, szq_b32rb, A_b32rb_32, Pq32_1⟩ := hQ32
        have N32 : Fr n0 L32 := by rw [l32]; exact Fr.app N29 N32q
        have ne_b14_b32rb : b14 ≠ b32rb := Nat.ne_of_lt (Nat.lt_of_lt_of_le E_b14_29j.lt szq_b32rb)
        have ne_b15_b32rb : b15 ≠ b32rb := Nat.ne_of_lt (Nat.lt_of_lt_of_le A_b15_29j.lt szq_b32rb)
        have ne_b19_b32rb : b19 ≠ b32rb := Nat.ne_of_lt (Nat.lt_of_lt_of_le A_b19_29j.lt szq_b32rb)
        have ne_b23rD_b32rb : b23rD ≠ b32rb := Nat.ne_of_lt (Nat.lt_of_lt_of_le A_b23rD_29j.lt szq_b32rb)
        have ne_b23rB_b32rb : b23rB ≠ b32rb := Nat.ne_of_lt (Nat.lt_of_lt_of_le A_b23rB_29j.lt szq_b32rb)
        have ge_b32rb : n0 ≤ b32rb := Nat.le_trans Z29j szq_b32rb
        have E_b14_32 := E_b14_29j.keep Kq32
        have F_search_b14_32 := F_search_b14_29j.keep Kq32 nin0
        have F_numbers_b14_32 := F_numbers_b14_29j.keep Kq32 nin0
        have F_elements_b14_32 := F_elements_b14_29j.keep Kq32 nin0
        have F_foundIn_b14_32 := F_foundIn_b14_29j.keep Kq32 nin0
        have F_next_b14_32 := F_next_b14_29j.keep Kq32 nin0
        have F_found_b14_32 := F_found_b14_29j.keep Kq32 nin0
        have F_bucketShift_b14_32 := F_bucketShift_b14_29j.keep Kq32 nin0
        have F_bucketStart_b14_32 := F_bucketStart_b14_29j.keep Kq32 nin0
        have F_foundCount_b14_32 := F_foundCount_b14_29j.keep Kq32 nin0
        have F_firstOnly_b14_32 := F_firstOnly_b14_29j.keep Kq32 nin0
        have A_b15_32 := A_b15_29j.keep Kq32 nin0
        have A_b19_32 := A_b19_29j.keep Kq32 nin0
        have A_b23rD_32 := A_b23rD_29j.keep Kq32 nin0
        have A_b23rB_32 := A_b23rB_29j.keep Kq32 nin0
        have Z32 : n0 ≤ T32.heap.size := Nat.le_trans Z29j Kq32.1
        refine own_go (fun tg k => st32.trans k) ?_
        show own_Fin _ _ _ _ _ _ _ (T32.setTop (mkF m 170 #[.val (.int p0), .val (.int p1), .val (.int p2), .val (.int p3), .val (.int p4), .val (.int (p0 &&& (7 : Int32))), .val (.int z1), .val (.int z2), .val (.int z6), .val (.int z10), .val (.int (p1 &&& (15 : Int32))), .val (.int z11), .val (.int z12), .val (.int z13), .val (.ref b14), .unset, .unset, .unset, .unset, .unset, .unset, .unset, .unset, .unset, .unset] [(.ref b32rb)]))
        refine own_go (fun _ k => XS.astore X32.here hx rfl (hb hby at_170) rfl rfl (l' := #[.val (.int p0), .val (.int p1), .val (.int p2), .val (.int p3), .val (.int p4), .val (.int (p0 &&& (7 : Int32))), .val (.int z1), .val (.int z2), .val (.int z6), .val (.int z10), .val (.int (p1 &&& (15 : Int32))), .val (.int z11), .val (.int z12), .val (.int z13), .val (.ref b14), .val (.ref b32rb), .unset, .unset, .unset, .unset, .unset, .unset, .unset, .unset, .unset]) rfl k) ?_
        show own_Fin _ _ _ _ _ _ _ (T32.setTop (mkF m 172 #[.val (.int p0), .val (.int p1), .val (.int p2), .val (.int p3), .val (.int p4), .val (.int (p0 &&& (7 : Int32))), .val (.int z1), .val (.int z2), .val (.int z6), .val (.int z10), .val (.int (p1 &&& (15 : Int32))), .val (.int z11), .val (.int z12), .val (.int z13), .val (.ref b14), .val (.ref b32rb), .unset, .unset, .unset, .unset, .unset, .unset, .unset, .unset, .unset] []))
        refine own_go (fun _ k => XS.iload X32.here hx rfl (hb hby at_172) rfl k) ?_
        refine own_go (fun _ k => XS.iload X32.here hx rfl (hb hby at_174) rfl k) ?_
        refine own_go (fun _ k => XS.iload X32.here hx rfl (hb hby at_176) rfl k) ?_
        obtain ⟨_, _, ⟨T33, L33, k33, n33⟩, -, X33, ⟨Lc33, hQ33, l33, y33, z33⟩, st33⟩ := Jvm.LawKit.callS X32 hx (y := (⟨"com/example/reachability/reachability/CandidateListFoundElementsPinLaw", "in", "(III)Z"⟩ : MethodName)) hown (mvT hZ (hw _ (List.mem_of_getElem? (i := 75) rfl))) (mvT hZ (hw _ (List.mem_of_getElem? (i := 76) rfl))) (mvT hZ (hw _ (List.mem_of_getElem? (i := 77) rfl))) (mvT hZ (hw _ (List.mem_of_getElem? (i := 78) rfl))) (by decide) (backOf (W := 0) (rm12 l Z a0 hw [] (p0 &&& (7 : Int32)) (p1 &&& (15 : Int32)) z11 T32.heap n0 Z32) hZ (hw _ (List.mem_of_getElem? (i := 78) rfl)) (hw _ (List.mem_of_getElem? (i := 77) rfl)) (by decide) (by decide)) (g := (mkF m 178 #[.val (.int p0), .val (.int p1), .val (.int p2), .val (.int p3), .val (.int p4), .val (.int (p0 &&& (7 : Int32))), .val (.int z1), .val (.int z2), .val (.int z6), .val (.int z10), .val (.int (p1 &&& (15 : Int32))), .val (.int z11), .val (.int z12), .val (.int z13), .val (.ref b14), .val (.ref b32rb), .unset, .unset, .unset, .unset, .unset, .unset, .unset, .unset, .unset] [(.int z11), (.int (p1 &&& (15 : Int32))), (.int (p0 &&& (7 : Int32)))])) rfl (by rw [hml]; rfl) (argsL := [(.int (p0 &&& (7 : Int32))), (.int (p1 &&& (15 : Int32))), (.int z11)]) (rest := []) (lenOf own_pd573 rfl) rfl (by show 2 * 0 + _ ≤ _; exact Nat.le_of_eq rfl) (hb hby at_178) (fun _ _ => ⟨rfl, rfl, (by decide : 9 + 0 ≤ _), (by decide : 43 + 0 ≤ _)⟩)
        dsimp only [Pt.U, Pt.locs, Pt.cells, Pt.slots] at X33 l33 y33 z33 st33 hQ33
        replace y33 : 9 = k33 := y33.symm
        replace z33 : 43 = n33 := z33.symm
        subst y33 z33
        obtain ⟨rfl, N33q, e33⟩ := hQ33
        have N33 : Fr n0 L33 := by rw [l33]; exact Fr.app N32 N33q
        refine own_go (fun tg k => st33 tg k) ?_
        show own_Fin _ _ _ _ _ _ _ (T33.setTop (mkF m 181 #[.val (.int p0), .val (.int p1), .val (.int p2), .val (.int p3), .val (.int p4), .val (.int (p0 &&& (7 : Int32))), .val (.int z1), .val (.int z2), .val (.int z6), .val (.int z10), .val (.int (p1 &&& (15 : Int32))), .val (.int z11), .val (.int z12), .val (.int z13), .val (.ref b14), .val (.ref b32rb), .unset, .unset, .unset, .unset, .unset, .unset, .unset, .unset, .unset] [(.int (own_f12 (p0 &&& (7 : Int32)) (p1 &&& (15 : Int32)) z11))]))
        refine own_go (fun _ k => XS.istore X33.here hx rfl (hb hby at_181) rfl (l' := #[.val (.int p0), .val (.int p1), .val (.int p2), .val (.int p3), .val (.int p4), .val (.int (p0 &&& (7 : Int32))), .val (.int z1), .val (.int z2), .val (.int z6), .val (.int z10), .val (.int (p1 &&& (15 : Int32))), .val (.int z11), .val (.int z12), .val (.int z13), .val (.ref b14), .val (.ref b32rb), .val (.int (own_f12 (p0 &&& (7 : Int32)) (p1 &&& (15 : Int32)) z11)), .unset, .unset, .unset, .unset, .unset, .unset, .unset, .unset]) rfl k) ?_
        show own_Fin _ _ _ _ _ _ _ (T33.setTop (mkF m 183 #[.val (.int p0), .val (.int p1), .val (.int p2), .val (.int p3), .val (.int p4), .val (.int (p0 &&& (7 : Int32))), .val (.int z1), .val (.int z2), .val (.int z6), .val (.int z10), .val (.int (p1 &&& (15 : Int32))), .val (.int z11), .val (.int z12), .val (.int z13), .val (.ref b14), .val (.ref b32rb), .val (.int (own_f12 (p0 &&& (7 : Int32)) (p1 &&& (15 : Int32)) z11)), .unset, .unset, .unset, .unset, .unset, .unset, .unset, .unset] []))
        generalize hz34 : (own_f12 (p0 &&& (7 : Int32)) (p1 &&& (15 : Int32)) z11) = z34
        show own_Fin _ _ _ _ _ _ _ (T33.setTop (mkF m 183 #[.val (.int p0), .val (.int p1), .val (.int p2), .val (.int p3), .val (.int p4), .val (.int (p0 &&& (7 : Int32))), .val (.int z1), .val (.int z2), .val (.int z6), .val (.int z10), .val (.int (p1 &&& (15 : Int32))), .val (.int z11), .val (.int z12), .val (.int z13), .val (.ref b14), .val (.ref b32rb), .val (.int z34), .unset, .unset, .unset, .unset, .unset, .unset, .unset, .unset] []))
        refine own_go (fun _ k => XS.iload X33.here hx rfl (hb hby at_183) rfl k) ?_
        refine own_go (fun _ k => XS.iload X33.here hx rfl (hb hby at_185) rfl k) ?_
        refine own_go (fun _ k => XS.iload X33.here hx rfl (hb hby at_187) rfl k) ?_
        obtain ⟨_, _, ⟨T35, L35, k35, n35⟩, -, X35, ⟨Lc35, hQ35, l35, y35, z35⟩, st35⟩ := Jvm.LawKit.callS X33 hx (y := (⟨"com/example/reachability/reachability/CandidateListFoundElementsPinLaw", "in", "(III)Z"⟩ : MethodName)) hown (mvT hZ (hw _ (List.mem_of_getElem? (i := 75) rfl))) (mvT hZ (hw _ (List.mem_of_getElem? (i := 76) rfl))) (mvT hZ (hw _ (List.mem_of_getElem? (i := 77) rfl))) (mvT hZ (hw _ (List.mem_of_getElem? (i := 78) rfl))) (by decide) (backOf (W := 0) (rm12 l Z a0 hw [] z1 (p1 &&& (15 : Int32)) z11 T32.heap n0 Z32) hZ (hw _ (List.mem_of_getElem? (i := 78) rfl)) (hw _ (List.mem_of_getElem? (i := 77) rfl)) (by decide) (by decide)) (g := (mkF m 189 #[.val (.int p0), .val (.int p1), .val (.int p2), .val (.int p3), .val (.int p4), .val (.int (p0 &&& (7 : Int32))), .val (.int z1), .val (.int z2), .val (.int z6), .val (.int z10), .val (.int (p1 &&& (15 : Int32))), .val (.int z11), .val (.int z12), .val (.int z13), .val (.ref b14), .val (.ref b32rb), .val (.int z34), .unset, .unset, .unset, .unset, .unset, .unset, .unset, .unset] [(.int z11), (.int (p1 &&& (15 : Int32))), (.int z1)])) rfl (by rw [hml]; rfl) (argsL := [(.int z1), (.int (p1 &&& (15 : Int32))), (.int z11)]) (rest := []) (lenOf own_pd573 rfl) rfl (by show 2 * 0 + _ ≤ _; exact Nat.le_of_eq rfl) (hb hby at_189) (fun _ _ => ⟨rfl, e33, (by decide : 9 + 0 ≤ _), (by decide : 43 + 0 ≤ _)⟩)
        dsimp only [Pt.U, Pt.locs, Pt.cells, Pt.slots] at X35 l35 y35 z35 st35 hQ35
        replace y35 : 9 = k35 := y35.symm
        replace z35 : 43 = n35 := z35.symm
        subst y35 z35
        obtain ⟨rfl, N35q, e35⟩ := hQ35
        have N35 : Fr n0 L35 := by rw [l35]; exact Fr.app N33 N35q
        refine own_go (fun tg k => st35 tg k) ?_
        show own_Fin _ _ _ _ _ _ _ (T35.setTop (mkF m 192 #[.val (.int p0), .val (.int p1), .val (.int p2), .val (.int p3), .val (.int p4), .val (.int (p0 &&& (7 : Int32))), .val (.int z1), .val (.int z2), .val (.int z6), .val (.int z10), .val (.int (p1 &&& (15 : Int32))), .val (.int z11), .val (.int z12), .val (.int z13), .val (.ref b14), .val (.ref b32rb), .val (.int z34), .unset, .unset, .unset, .unset, .unset, .unset, .unset, .unset] [(.int (own_f12 z1 (p1 &&& (15 : Int32)) z11))]))
        have hk37 : ∀ (T' : State) (L' : List Loc), Stand p l e room_1 s m #[(.int p0), (.int p1), (.int p2), (.int p3), (.int p4)] below meth c T' L' 9 43 → Fr n0 L' → T'.heap = T32.heap → own_Fin p.tables e below s (own_QL (some (.int (1 : Int32))) n0) 32 192 (T'.setTop (mkF m 210 #[.val (.int p0), .val (.int p1), .val (.int p2), .val (.int p3), .val (.int p4), .val (.int (p0 &&& (7 : Int32))), .val (.int z1), .val (.int z2), .val (.int z6), .val (.int z10), .val (.int (p1 &&& (15 : Int32))), .val (.int z11), .val (.int z12), .val (.int z13), .val (.ref b14), .val (.ref b32rb), .val (.int z34), .unset, .unset, .unset, .unset, .unset, .unset, .unset, .unset] [(.int (if (own_f12 z1 (p1 &&& (15 : Int32)) z11) = (0 : Int32) then (0 : Int32) else (if z6 = (0 : Int32) then (1 : Int32) else (if z34 = (0 : Int32) then (1 : Int32) else (0 : Int32)))))])) := by
          intro T40 L40 X40 N40 e40
          generalize hz41 : (if (own_f12 z1 (p1 &&& (15 : Int32)) z11) = (0 : Int32) then (0 : Int32) else (if z6 = (0 : Int32) then (1 : Int32) else (if z34 = (0 : Int32) then (1 : Int32) else (0 : Int32)))) = z41
          show own_Fin _ _ _ _ _ _ _ (T40.setTop (mkF m 210 #[.val (.int p0), .val (.int p1), .val (.int p2), .val (.int p3), .val (.int p4), .val (.int (p0 &&& (7 : Int32))), .val (.int z1), .val (.int z2), .val (.int z6), .val (.int z10), .val (.int (p1 &&& (15 : Int32))), .val (.int z11), .val (.int z12), .val (.int z13), .val (.ref b14), .val (.ref b32rb), .val (.int z34), .unset, .unset, .unset, .unset, .unset, .unset, .unset, .unset] [(.int z41)]))
          refine own_go (fun _ k => XS.istore X40.here hx rfl (hb hby at_210) rfl (l' := #[.val (.int p0), .val (.int p1), .val (.int p2), .val (.int p3), .val (.int p4), .val (.int (p0 &&& (7 : Int32))), .val (.int z1), .val (.int z2), .val (.int z6), .val (.int z10), .val (.int (p1 &&& (15 : Int32))), .val (.int z11), .val (.int z12), .val (.int z13), .val (.ref b14), .val (.ref b32rb), .val (.int z34), .val (.int z41), .unset, .unset, .unset, .unset, .unset, .unset, .unset]) rfl k) ?_
          show own_Fin _ _ _ _ _ _ _ (T40.setTop (mkF m 212 #[.val (.int p0), .val (.int p1), .val (.int p2), .val (.int p3), .val (.int p4), .val (.int (p0 &&& (7 : Int32))), .val (.int z1), .val (.int z2), .val (.int z6), .val (.int z10), .val (.int (p1 &&& (15 : Int32))), .val (.int z11), .val (.int z12), .val (.int z13), .val (.ref b14), .val (.ref b32rb), .val (.int z34), .val (.int z41), .unset, .unset, .unset, .unset, .unset, .unset, .unset] []))
          refine own_go (fun _ k => XS.iload X40.here hx rfl (hb hby at_212) rfl k) ?_
          refine own_go (fun _ k => XS.iload X40.here hx rfl (hb hby at_214) rfl k) ?_
          refine own_go (fun _ k => XS.iload X40.here hx rfl (hb hby at_216) rfl k) ?_
          obtain ⟨_, _, ⟨T42, L42, k42, n42⟩, -, X42, ⟨Lc42, hQ42, l42, y42, z42⟩, st42⟩ := Jvm.LawKit.callS X40 hx (y := (⟨"com/example/reachability/reachability/CandidateListFoundElementsPinLaw", "in", "(III)Z"⟩ : MethodName)) hown (mvT hZ (hw _ (List.mem_of_getElem? (i := 75) rfl))) (mvT hZ (hw _ (List.mem_of_getElem? (i := 76) rfl))) (mvT hZ (hw _ (List.mem_of_getElem? (i := 77) rfl))) (mvT hZ (hw _ (List.mem_of_getElem? (i := 78) rfl))) (by decide) (backOf (W := 0) (rm12 l Z a0 hw [] z2 (p1 &&& (15 : Int32)) z11 T32.heap n0 Z32) hZ (hw _ (List.mem_of_getElem? (i := 78) rfl)) (hw _ (List.mem_of_getElem? (i := 77) rfl)) (by decide) (by decide)) (g := (mkF m 218 #[.val (.int p0), .val (.int p1), .val (.int p2), .val (.int p3), .val (.int p4), .val (.int (p0 &&& (7 : Int32))), .val (.int z1), .val (.int z2), .val (.int z6), .val (.int z10), .val (.int (p1 &&& (15 : Int32))), .val (.int z11), .val (.int z12), .val (.int z13), .val (.ref b14), .val (.ref b32rb), .val (.int z34), .val (.int z41), .unset, .unset, .unset, .unset, .unset, .unset, .unset] [(.int z11), (.int (p1 &&& (15 : Int32))), (.int z2)])) rfl (by rw [hml]; rfl) (argsL := [(.int z2), (.int (p1 &&& (15 : Int32))), (.int z11)]) (rest := []) (lenOf own_pd573 rfl) rfl (by show 2 * 0 + _ ≤ _; exact Nat.le_of_eq rfl) (hb hby at_218) (fun _ _ => ⟨rfl, e40, (by decide : 9 + 0 ≤ _), (by decide : 43 + 0 ≤ _)⟩)
          dsimp only [Pt.U, Pt.locs, Pt.cells, Pt.slots] at X42 l42 y42 z42 st42 hQ42
          replace y42 : 9 = k42 := y42.symm
          replace z42 : 43 = n42 := z42.symm
          subst y42 z42
          obtain ⟨rfl, N42q, e42⟩ := hQ42
          have N42 : Fr n0 L42 := by rw [l42]; exact Fr.app N40 N42q
          refine own_go (fun tg k => st42 tg k) ?_
          show own_Fin _ _ _ _ _ _ _ (T42.setTop (mkF m 221 #[.val (.int p0), .val (.int p1), .val (.int p2), .val (.int p3), .val (.int p4), .val (.int (p0 &&& (7 : Int32))), .val (.int z1), .val (.int z2), .val (.int z6), .val (.int z10), .val (.int (p1 &&& (15 : Int32))), .val (.int z11), .val (.int z12), .val (.int z13), .val (.ref b14), .val (.ref b32rb), .val (.int z34), .val (.int z41), .unset, .unset, .unset, .unset, .unset, .unset, .unset] [(.int (own_f12 z2 (p1 &&& (15 : Int32)) z11))]))
          have hk44 : ∀ (T' : State) (L' : List Loc), Stand p l e room_1 s m #[(.int p0), (.int p1), (.int p2), (.int p3), (.int p4)] below meth c T' L' 9 43 → Fr n0 L' → T'.heap = T32.heap → own_Fin p.tables e below s (own_QL (some (.int (1 : Int32))) n0) 32 192 (T'.setTop (mkF m 244 #[.val (.int p0), .val (.int p1), .val (.int p2), .val (.int p3), .val (.int p4), .val (.int (p0 &&& (7 : Int32))), .val (.int z1), .val (.int z2), .val (.int z6), .val (.int z10), .val (.int (p1 &&& (15 : Int32))), .val (.int z11), .val (.int z12), .val (.int z13), .val (.ref b14), .val (.ref b32rb), .val (.int z34), .val (.int z41), .unset, .unset, .unset, .unset, .unset, .unset, .unset] [(.int (if (own_f12 z2 (p1 &&& (15 : Int32)) z11) = (0 : Int32) then (0 : Int32) else (if z6 = (0 : Int32) then (1 : Int32) else (if z34 = (0 : Int32) then (if z41 = (0 : Int32) then (1 : Int32) else (0 : Int32)) else (0 : Int32)))))])) := by
            intro T48 L48 X48 N48 e48
            generalize hz49 : (if (own_f12 z2 (p1 &&& (15 : Int32)) z11) = (0 : Int32) then (0 : Int32) else (if z6 = (0 : Int32) then (1 : Int32) else (if z34 = (0 : Int32) then (if z41 = (0 : Int32) then (1 : Int32) else (0 : Int32)) else (0 : Int32)))) = z49
            show own_Fin _ _ _ _ _ _ _ (T48.setTop (mkF m 244 #[.val (.int p0), .val (.int p1), .val (.int p2), .val (.int p3), .val (.int p4), .val (.int (p0 &&& (7 : Int32))), .val (.int z1), .val (.int z2), .val (.int z6), .val (.int z10), .val (.int (p1 &&& (15 : Int32))), .val (.int z11), .val (.int z12), .val (.int z13), .val (.ref b14), .val (.ref b32rb), .val (.int z34), .val (.int z41), .unset, .unset, .unset, .unset, .unset, .unset, .unset] [(.int z49)]))
            refine own_go (fun _ k => XS.istore X48.here hx rfl (hb hby at_244) rfl (l' := #[.val (.int p0), .val (.int p1), .val (.int p2), .val (.int p3), .val (.int p4), .val (.int (p0 &&& (7 : Int32))), .val (.int z1), .val (.int z2), .val (.int z6), .val (.int z10), .val (.int (p1 &&& (15 : Int32))), .val (.int z11), .val (.int z12), .val (.int z13), .val (.ref b14), .val (.ref b32rb), .val (.int z34), .val (.int z41), .val (.int z49), .unset, .unset, .unset, .unset, .unset, .unset]) rfl k) ?_
            show own_Fin _ _ _ _ _ _ _ (T48.setTop (mkF m 246 #[.val (.int p0), .val (.int p1), .val (.int p2), .val (.int p3), .val (.int p4), .val (.int (p0 &&& (7 : Int32))), .val (.int z1), .val (.int z2), .val (.int z6), .val (.int z10), .val (.int (p1 &&& (15 : Int32))), .val (.int z11), .val (.int z12), .val (.int z13), .val (.ref b14), .val (.ref b32rb), .val (.int z34), .val (.int z41), .val (.int z49), .unset, .unset, .unset, .unset, .unset, .unset] []))
            refine own_go (fun _ k => XS.iload X48.here hx rfl (hb hby at_246) rfl k) ?_
            show own_Fin _ _ _ _ _ _ _ (T48.setTop (mkF m 248 #[.val (.int p0), .val (.int p1), .val (.int p2), .val (.int p3), .val (.int p4), .val (.int (p0 &&& (7 : Int32))), .val (.int z1), .val (.int z2), .val (.int z6), .val (.int z10), .val (.int (p1 &&& (15 : Int32))), .val (.int z11), .val (.int z12), .val (.int z13), .val (.ref b14), .val (.ref b32rb), .val (.int z34), .val (.int z41), .val (.int z49), .unset, .unset, .unset, .unset, .unset, .unset] [(.int z34)]))
            have hk51 : ∀ (T' : State) (L' : List Loc), Stand p l e room_1 s m #[(.int p0), (.int p1), (.int p2), (.int p3), (.int p4)] below meth c T' L' 9 43 → Fr n0 L' → T'.heap = T32.heap → own_Fin p.tables e below s (own_QL (some (.int (1 : Int32))) n0) 32 192 (T'.setTop (mkF m 266 #[.val (.int p0), .val (.int p1), .val (.int p2), .val (.int p3), .val (.int p4), .val (.int (p0 &&& (7 : Int32))), .val (.int z1), .val (.int z2), .val (.int z6), .val (.int z10), .val (.int (p1 &&& (15 : Int32))), .val (.int z11), .val (.int z12), .val (.int z13), .val (.ref b14), .val (.ref b32rb), .val (.int z34), .val (.int z41), .val (.int z49), .unset, .unset, .unset, .unset, .unset, .unset] [(.int (if z34 = (0 : Int32) then (if z41 = (0 : Int32) then (if z49 = (0 : Int32) then (0 : Int32) else (1 : Int32)) else (1 : Int32)) else (1 : Int32)))])) := by
              intro T54 L54 X54 N54 e54
              generalize hz55 : (if z34 = (0 : Int32) then (if z41 = (0 : Int32) then (if z49 = (0 : Int32) then (0 : Int32) else (1 : Int32)) else (1 : Int32)) else (1 : Int32)) = z55
              show own_Fin _ _ _ _ _ _ _ (T54.setTop (mkF m 266 #[.val (.int p0), .val (.int p1), .val (.int p2), .val (.int p3), .val (.int p4), .val (.int (p0 &&& (7 : Int32))), .val (.int z1), .val (.int z2), .val (.int z6), .val (.int z10), .val (.int (p1 &&& (15 : Int32))), .val (.int z11), .val (.int z12), .val (.int z13), .val (.ref b14), .val (.ref b32rb), .val (.int z34), .val (.int z41), .val (.int z49), .unset, .unset, .unset, .unset, .unset, .unset] [(.int z55)]))
              refine own_go (fun _ k => XS.istore X54.here hx rfl (hb hby at_266) rfl (l' := #[.val (.int p0), .val (.int p1), .val (.int p2), .val (.int p3), .val (.int p4), .val (.int (p0 &&& (7 : Int32))), .val (.int z1), .val (.int z2), .val (.int z6), .val (.int z10), .val (.int (p1 &&& (15 : Int32))), .val (.int z11), .val (.int z12), .val (.int z13), .val (.ref b14), .val (.ref b32rb), .val (.int z34), .val (.int z41), .val (.int z49), .val (.int z55), .unset, .unset, .unset, .unset, .unset]) rfl k) ?_
              show own_Fin _ _ _ _ _ _ _ (T54.setTop (mkF m 268 #[.val (.int p0), .val (.int p1), .val (.int p2), .val (.int p3), .val (.int p4), .val (.int (p0 &&& (7 : Int32))), .val (.int z1), .val (.int z2), .val (.int z6), .val (.int z10), .val (.int (p1 &&& (15 : Int32))), .val (.int z11), .val (.int z12), .val (.int z13), .val (.ref b14), .val (.ref b32rb), .val (.int z34), .val (.int z41), .val (.int z49), .val (.int z55), .unset, .unset, .unset, .unset, .unset] []))
              refine own_go (fun _ k => XS.iload X54.here hx rfl (hb hby at_268) rfl k) ?_
              show own_Fin _ _ _ _ _ _ _ (T54.setTop (mkF m 270 #[.val (.int p0), .val (.int p1), .val (.int p2), .val (.int p3), .val (.int p4), .val (.int (p0 &&& (7 : Int32))), .val (.int z1), .val (.int z2), .val (.int z6), .val (.int z10), .val (.int (p1 &&& (15 : Int32))), .val (.int z11), .val (.int z12), .val (.int z13), .val (.ref b14), .val (.ref b32rb), .val (.int z34), .val (.int z41), .val (.int z49), .val (.int z55), .unset, .unset, .unset, .unset, .unset] [(.int z10)]))
              have hk57 : ∀ (T' : State) (L' : List Loc), Stand p l e room_1 s m #[(.int p0), (.int p1), (.int p2), (.int p3), (.int p4)] below meth c T' L' 9 43 → Fr n0 L' → T'.heap = T32.heap → own_Fin p.tables e below s (own_QL (some (.int (1 : Int32))) n0) 32 192 (T'.setTop (mkF m 305 #[.val (.int p0), .val (.int p1), .val (.int p2), .val (.int p3), .val (.int p4), .val (.int (p0 &&& (7 : Int32))), .val (.int z1), .val (.int z2), .val (.int z6), .val (.int z10), .val (.int (p1 &&& (15 : Int32))), .val (.int z11), .val (.int z12), .val (.int z13), .val (.ref b14), .val (.ref b32rb), .val (.int z34), .val (.int z41), .val (.int z49), .val (.int z55), .unset, .unset, .unset, .unset, .unset] [(.int (if z10 = (0 : Int32) then (0 : Int32) else (if (own_f12 (p0 &&& (7 : Int32)) z12 z13) = (0 : Int32) then (0 : Int32) else (if z34 = (0 : Int32) then (if z6 = (0 : Int32) then (1 : Int32) else (if z55 = (0 : Int32) then (1 : Int32) else (0 : Int32))) else (0 : Int32)))))])) := by
                intro T63 L63 X63 N63 e63
                generalize hz64 : (if z10 = (0 : Int32) then (0 : Int32) else (if (own_f12 (p0 &&& (7 : Int32)) z12 z13) = (0 : Int32) then (0 : Int32) else (if z34 = (0 : Int32) then (if z6 = (0 : Int32) then (1 : Int32) else (if z55 = (0 : Int32) then (1 : Int32) else (0 : Int32))) else (0 : Int32)))) = z64
                show own_Fin _ _ _ _ _ _ _ (T63.setTop (mkF m 305 #[.val (.int p0), .val (.int p1), .val (.int p2), .val (.int p3), .val (.int p4), .val (.int (p0 &&& (7 : Int32))), .val (.int z1), .val (.int z2), .val (.int z6), .val (.int z10), .val (.int (p1 &&& (15 : Int32))), .val (.int z11), .val (.int z12), .val (.int z13), .val (.ref b14), .val (.ref b32rb), .val (.int z34), .val (.int z41), .val (.int z49), .val (.int z55), .unset, .unset, .unset, .unset, .unset] [(.int z64)]))
                refine own_go (fun _ k => XS.istore X63.here hx rfl (hb hby at_305) rfl (l' := #[.val (.int p0), .val (.int p1), .val (.int p2), .val (.int p3), .val (.int p4), .val (.int (p0 &&& (7 : Int32))), .val (.int z1), .val (.int z2), .val (.int z6), .val (.int z10), .val (.int (p1 &&& (15 : Int32))), .val (.int z11), .val (.int z12), .val (.int z13), .val (.ref b14), .val (.ref b32rb), .val (.int z34), .val (.int z41), .val (.int z49), .val (.int z55), .val (.int z64), .unset, .unset, .unset, .unset]) rfl k) ?_
                show own_Fin _ _ _ _ _ _ _ (T63.setTop (mkF m 307 #[.val (.int p0), .val (.int p1), .val (.int p2), .val (.int p3), .val (.int p4), .val (.int (p0 &&& (7 : Int32))), .val (.int z1), .val (.int z2), .val (.int z6), .val (.int z10), .val (.int (p1 &&& (15 : Int32))), .val (.int z11), .val (.int z12), .val (.int z13), .val (.ref b14), .val (.ref b32rb), .val (.int z34), .val (.int z41), .val (.int z49), .val (.int z55), .val (.int z64), .unset, .unset, .unset, .unset] []))
                refine own_go (fun _ k => XS.iload X63.here hx rfl (hb hby at_307) rfl k) ?_
                show own_Fin _ _ _ _ _ _ _ (T63.setTop (mkF m 309 #[.val (.int p0), .val (.int p1), .val (.int p2), .val (.int p3), .val (.int p4), .val (.int (p0 &&& (7 : Int32))), .val (.int z1), .val (.int z2), .val (.int z6), .val (.int z10), .val (.int (p1 &&& (15 : Int32))), .val (.int z11), .val (.int z12), .val (.int z13), .val (.ref b14), .val (.ref b32rb), .val (.int z34), .val (.int z41), .val (.int z49), .val (.int z55), .val (.int z64), .unset, .unset, .unset, .unset] [(.int z10)]))
                have hk66 : ∀ (T' : State) (L' : List Loc), Stand p l e room_1 s m #[(.int p0), (.int p1), (.int p2), (.int p3), (.int p4)] below meth c T' L' 9 43 → Fr n0 L' → T'.heap = T32.heap → own_Fin p.tables e below s (own_QL (some (.int (1 : Int32))) n0) 32 192 (T'.setTop (mkF m 349 #[.val (.int p0), .val (.int p1), .val (.int p2), .val (.int p3), .val (.int p4), .val (.int (p0 &&& (7 : Int32))), .val (.int z1), .val (.int z2), .val (.int z6), .val (.int z10), .val (.int (p1 &&& (15 : Int32))), .val (.int z11), .val (.int z12), .val (.int z13), .val (.ref b14), .val (.ref b32rb), .val (.int z34), .val (.int z41), .val (.int z49), .val (.int z55), .val (.int z64), .unset, .unset, .unset, .unset] [(.int (if z10 = (0 : Int32) then (0 : Int32) else (if (own_f12 z1 z12 z13) = (0 : Int32) then (0 : Int32) else (if z41 = (0 : Int32) then (if z6 = (0 : Int32) then (1 : Int32) else (if z55 = (0 : Int32) then (if z64 = (0 : Int32) then (1 : Int32) else (0 : Int32)) else (0 : Int32))) else (0 : Int32)))))])) := by
                  intro T73 L73 X73 N73 e73
                  generalize hz74 : (if z10 = (0 : Int32) then (0 : Int32) else (if (own_f12 z1 z12 z13) = (0 : Int32) then (0 : Int32) else (if z41 = (0 : Int32) then (if z6 = (0 : Int32) then (1 : Int32) else (if z55 = (0 : Int32) then (if z64 = (0 : Int32) then (1 : Int32) else (0 : Int32)) else (0 : Int32))) else (0 : Int32)))) = z74
                  show own_Fin _ _ _ _ _ _ _ (T73.setTop (mkF m 349 #[.val (.int p0), .val (.int p1), .val (.int p2), .val (.int p3), .val (.int p4), .val (.int (p0 &&& (7 : Int32))), .val (.int z1), .val (.int z2), .val (.int z6), .val (.int z10), .val (.int (p1 &&& (15 : Int32))), .val (.int z11), .val (.int z12), .val (.int z13), .val (.ref b14), .val (.ref b32rb), .val (.int z34), .val (.int z41), .val (.int z49), .val (.int z55), .val (.int z64), .unset, .unset, .unset, .unset] [(.int z74)]))
                  refine own_go (fun _ k => XS.istore X73.here hx rfl (hb hby at_349) rfl (l' := #[.val (.int p0), .val (.int p1), .val (.int p2), .val (.int p3), .val (.int p4), .val (.int (p0 &&& (7 : Int32))), .val (.int z1), .val (.int z2), .val (.int z6), .val (.int z10), .val (.int (p1 &&& (15 : Int32))), .val (.int z11), .val (.int z12), .val (.int z13), .val (.ref b14), .val (.ref b32rb), .val (.int z34), .val (.int z41), .val (.int z49), .val (.int z55), .val (.int z64), .val (.int z74), .unset, .unset, .unset]) rfl k) ?_
                  show own_Fin _ _ _ _ _ _ _ (T73.setTop (mkF m 351 #[.val (.int p0), .val (.int p1), .val (.int p2), .val (.int p3), .val (.int p4), .val (.int (p0 &&& (7 : Int32))), .val (.int z1), .val (.int z2), .val (.int z6), .val (.int z10), .val (.int (p1 &&& (15 : Int32))), .val (.int z11), .val (.int z12), .val (.int z13), .val (.ref b14), .val (.ref b32rb), .val (.int z34), .val (.int z41), .val (.int z49), .val (.int z55), .val (.int z64), .val (.int z74), .unset, .unset, .unset] []))
                  refine own_go (fun _ k => XS.iload X73.here hx rfl (hb hby at_351) rfl k) ?_
                  show own_Fin _ _ _ _ _ _ _ (T73.setTop (mkF m 353 #[.val (.int p0), .val (.int p1), .val (.int p2), .val (.int p3), .val (.int p4), .val (.int (p0 &&& (7 : Int32))), .val (.int z1), .val (.int z2), .val (.int z6), .val (.int z10), .val (.int (p1 &&& (15 : Int32))), .val (.int z11), .val (.int z12), .val (.int z13), .val (.ref b14), .val (.ref b32rb), .val (.int z34), .val (.int z41), .val (.int z49), .val (.int z55), .val (.int z64), .val (.int z74), .unset, .unset, .unset] [(.int z10)]))
                  have hk76 : ∀ (T' : State) (L' : List Loc), Stand p l e room_1 s m #[(.int p0), (.int p1), (.int p2), (.int p3), (.int p4)] below meth c T' L' 9 43 → Fr n0 L' → T'.heap = T32.heap → own_Fin p.tables e below s (own_QL (some (.int (1 : Int32))) n0) 32 192 (T'.setTop (mkF m 398 #[.val (.int p0), .val (.int p1), .val (.int p2), .val (.int p3), .val (.int p4), .val (.int (p0 &&& (7 : Int32))), .val (.int z1), .val (.int z2), .val (.int z6), .val (.int z10), .val (.int (p1 &&& (15 : Int32))), .val (.int z11), .val (.int z12), .val (.int z13), .val (.ref b14), .val (.ref b32rb), .val (.int z34), .val (.int z41), .val (.int z49), .val (.int z55), .val (.int z64), .val (.int z74), .unset, .unset, .unset] [(.int (if z10 = (0 : Int32) then (0 : Int32) else (if (own_f12 z2 z12 z13) = (0 : Int32) then (0 : Int32) else (if z49 = (0 : Int32) then (if z6 = (0 : Int32) then (1 : Int32) else (if z55 = (0 : Int32) then (if z64 = (0 : Int32) then (if z74 = (0 : Int32) then (1 : Int32) else (0 : Int32)) else (0 : Int32)) else (0 : Int32))) else (0 : Int32)))))])) := by
                    intro T84 L84 X84 N84 e84
                    generalize hz85 : (if z10 = (0 : Int32) then (0 : Int32) else (if (own_f12 z2 z12 z13) = (0 : Int32) then (0 : Int32) else (if z49 = (0 : Int32) then (if z6 = (0 : Int32) then (1 : Int32) else (if z55 = (0 : Int32) then (if z64 = (0 : Int32) then (if z74 = (0 : Int32) then (1 : Int32) else (0 : Int32)) else (0 : Int32)) else (0 : Int32))) else (0 : Int32)))) = z85
                    show own_Fin _ _ _ _ _ _ _ (T84.setTop (mkF m 398 #[.val (.int p0), .val (.int p1), .val (.int p2), .val (.int p3), .val (.int p4), .val (.int (p0 &&& (7 : Int32))), .val (.int z1), .val (.int z2), .val (.int z6), .val (.int z10), .val (.int (p1 &&& (15 : Int32))), .val (.int z11), .val (.int z12), .val (.int z13), .val (.ref b14), .val (.ref b32rb), .val (.int z34), .val (.int z41), .val (.int z49), .val (.int z55), .val (.int z64), .val (.int z74), .unset, .unset, .unset] [(.int z85)]))
                    refine own_go (fun _ k => XS.istore X84.here hx rfl (hb hby at_398) rfl (l' := #[.val (.int p0), .val (.int p1), .val (.int p2), .val (.int p3), .val (.int p4), .val (.int (p0 &&& (7 : Int32))), .val (.int z1), .val (.int z2), .val (.int z6), .val (.int z10), .val (.int (p1 &&& (15 : Int32))), .val (.int z11), .val (.int z12), .val (.int z13), .val (.ref b14), .val (.ref b32rb), .val (.int z34), .val (.int z41), .val (.int z49), .val (.int z55), .val (.int z64), .val (.int z74), .val (.int z85), .unset, .unset]) rfl k) ?_
                    show own_Fin _ _ _ _ _ _ _ (T84.setTop (mkF m 400 #[.val (.int p0), .val (.int p1), .val (.int p2), .val (.int p3), .val (.int p4), .val (.int (p0 &&& (7 : Int32))), .val (.int z1), .val (.int z2), .val (.int z6), .val (.int z10), .val (.int (p1 &&& (15 : Int32))), .val (.int z11), .val (.int z12), .val (.int z13), .val (.ref b14), .val (.ref b32rb), .val (.int z34), .val (.int z41), .val (.int z49), .val (.int z55), .val (.int z64), .val (.int z74), .val (.int z85), .unset, .unset] []))
                    refine own_go (fun _ k => XS.bipush X84.here hx rfl (hb hby at_400) k) ?_
                    obtain ⟨T86, h86, k86, X86, e86, E86, A86, st86⟩ := newP X84 hx hZ (hw _ (List.mem_of_getElem? (i := 3) rfl)) e84 (g := (mkF m 402 #[.val (.int p0), .val (.int p1), .val (.int p2), .val (.int p3), .val (.int p4), .val (.int (p0 &&& (7 : Int32))), .val (.int z1), .val (.int z2), .val (.int z6), .val (.int z10), .val (.int (p1 &&& (15 : Int32))), .val (.int z11), .val (.int z12), .val (.int z13), .val (.ref b14), .val (.ref b32rb), .val (.int z34), .val (.int z41), .val (.int z49), .val (.int z55), .val (.int z64), .val (.int z74), .val (.int z85), .unset, .unset] [(.int (6 : Int32))])) rfl (hb hby at_402) rfl (by decide) (cap := 6) (by decide) (by decide) (by decide) (by decide)
                    obtain ⟨b86, g86⟩ : ∃ z, z = T32.heap.size := ⟨_, rfl⟩
                    rw [← g86] at A86 st86
                    have ne_b32rb_b86 : b32rb ≠ b86 := Nat.ne_of_lt (Nat.lt_of_lt_of_le A_b32rb_32.lt (Nat.le_of_eq g86.symm))
                    have ge_b86 : n0 ≤ b86 := Nat.le_trans Z32 (Nat.le_of_eq g86.symm)
                    have A_b32rb_86 := A_b32rb_32.ext E86
                    have Z86 : n0 ≤ h86.size := Nat.le_trans Z32 E86.1
                    have A_b86_86 : own_Arf Z h86 b86 .int (6 : Int32) (fun i => .int ((fun _ => (0 : Int32)) i)) := own_Arf.new A86 (by decide)
                    refine own_go (fun tg k => st86 tg k) ?_
                    show own_Fin _ _ _ _ _ _ _ (T86.setTop (mkF m 404 #[.val (.int p0), .val (.int p1), .val (.int p2), .val (.int p3), .val (.int p4), .val (.int (p0 &&& (7 : Int32))), .val (.int z1), .val (.int z2), .val (.int z6), .val (.int z10), .val (.int (p1 &&& (15 : Int32))), .val (.int z11), .val (.int z12), .val (.int z13), .val (.ref b14), .val (.ref b32rb), .val (.int z34), .val (.int z41), .val (.int z49), .val (.int z55), .val (.int z64), .val (.int z74), .val (.int z85), .unset, .unset] [(.ref b86)]))
                    refine own_go (fun _ k => XS.astore X86.here hx rfl (hb hby at_404) rfl rfl (l' := #[.val (.int p0), .val (.int p1), .val (.int p2), .val (.int p3), .val (.int p4), .val (.int (p0 &&& (7 : Int32))), .val (.int z1), .val (.int z2), .val (.int z6), .val (.int z10), .val (.int (p1 &&& (15 : Int32))), .val (.int z11), .val (.int z12), .val (.int z13), .val (.ref b14), .val (.ref b32rb), .val (.int z34), .val (.int z41), .val (.int z49), .val (.int z55), .val (.int z64), .val (.int z74), .val (.int z85), .val (.ref b86), .unset]) rfl k) ?_
                    show own_Fin _ _ _ _ _ _ _ (T86.setTop (mkF m 406 #[.val (.int p0), .val (.int p1), .val (.int p2), .val (.int p3), .val (.int p4), .val (.int (p0 &&& (7 : Int32))), .val (.int z1), .val (.int z2), .val (.int z6), .val (.int z10), .val (.int (p1 &&& (15 : Int32))), .val (.int z11), .val (.int z12), .val (.int z13), .val (.ref b14), .val (.ref b32rb), .val (.int z34), .val (.int z41), .val (.int z49), .val (.int z55), .val (.int z64), .val (.int z74), .val (.int z85), .val (.ref b86), .unset] []))
                    refine own_go (fun _ k => XS.iconst X86.here hx rfl (hb hby at_406) k) ?_
                    refine own_go (fun _ k => XS.istore X86.here hx rfl (hb hby at_407) rfl (l' := #[.val (.int p0), .val (.int p1), .val (.int p2), .val (.int p3), .val (.int p4), .val (.int (p0 &&& (7 : Int32))), .val (.int z1), .val (.int z2), .val (.int z6), .val (.int z10), .val (.int (p1 &&& (15 : Int32))), .val (.int z11), .val (.int z12), .val (.int z13), .val (.ref b14), .val (.ref b32rb), .val (.int z34), .val (.int z41), .val (.int z49), .val (.int z55), .val (.int z64), .val (.int z74), .val (.int z85), .val (.ref b86), .val (.int (0 : Int32))]) rfl k) ?_
                    show own_Fin _ _ _ _ _ _ _ (T86.setTop (mkF m 409 #[.val (.int p0), .val (.int p1), .val (.int p2), .val (.int p3), .val (.int p4), .val (.int (p0 &&& (7 : Int32))), .val (.int z1), .val (.int z2), .val (.int z6), .val (.int z10), .val (.int (p1 &&& (15 : Int32))), .val (.int z11), .val (.int z12), .val (.int z13), .val (.ref b14), .val (.ref b32rb), .val (.int z34), .val (.int z41), .val (.int z49), .val (.int z55), .val (.int z64), .val (.int z74), .val (.int z85), .val (.ref b86), .val (.int (0 : Int32))] []))
                    refine own_go (fun _ k => XS.iload X86.here hx rfl (hb hby at_409) rfl k) ?_
                    show own_Fin _ _ _ _ _ _ _ (T86.setTop (mkF m 411 #[.val (.int p0), .val (.int p1), .val (.int p2), .val (.int p3), .val (.int p4), .val (.int (p0 &&& (7 : Int32))), .val (.int z1), .val (.int z2), .val (.int z6), .val (.int z10), .val (.int (p1 &&& (15 : Int32))), .val (.int z11), .val (.int z12), .val (.int z13), .val (.ref b14), .val (.ref b32rb), .val (.int z34), .val (.int z41), .val (.int z49), .val (.int z55), .val (.int z64), .val (.int z74), .val (.int z85), .val (.ref b86), .val (.int (0 : Int32))] [(.int z34)]))
                    have hk88 : ∀ (T' : State) (L' : List Loc) (H' : Heap), Stand p l e room_1 s m #[(.int p0), (.int p1), (.int p2), (.int p3), (.int p4)] below meth c T' L' 10 49 → Fr n0 L' → T'.heap = H' → n0 ≤ H'.size → own_Arf Z H' b32rb .int f30 (fun i => .int (gR32 i)) → own_Arf Z H' b86 .int (6 : Int32) (fun i => .int ((if z34 = (0 : Int32) then (fun _ => (0 : Int32)) else (own_set (fun _ => (0 : Int32)) (0 : Int32) p2)) i)) → own_Fin p.tables e below s (own_QL (some (.int (1 : Int32))) n0) 32 192 (T'.setTop (mkF m 423 #[.val (.int p0), .val (.int p1), .val (.int p2), .val (.int p3), .val (.int p4), .val (.int (p0 &&& (7 : Int32))), .val (.int z1), .val (.int z2), .val (.int z6), .val (.int z10), .val (.int (p1 &&& (15 : Int32))), .val (.int z11), .val (.int z12), .val (.int z13), .val (.ref b14), .val (.ref b32rb), .val (.int z34), .val (.int z41), .val (.int z49), .val (.int z55), .val (.int z64), .val (.int z74), .val (.int z85), .val (.ref b86), .val (.int (if z34 = (0 : Int32) then (0 : Int32) else (1 : Int32)))] [])) := by
                      intro T90 L90 h90j X90 N90 e90 Z90j A_b32rb_90j A_b86_90j
                      generalize hz91 : (if z34 = (0 : Int32) then (0 : Int32) else (1 : Int32)) = z91
                      show own_Fin _ _ _ _ _ _ _ (T90.setTop (mkF m 423 #[.val (.int p0), .val (.int p1), .val (.int p2), .val (.int p3), .val (.int p4), .val (.int (p0 &&& (7 : Int32))), .val (.int z1), .val (.int z2), .val (.int z6), .val (.int z10), .val (.int (p1 &&& (15 : Int32))), .val (.int z11), .val (.int z12), .val (.int z13), .val (.ref b14), .val (.ref b32rb), .val (.int z34), .val (.int z41), .val (.int z49), .val (.int z55), .val (.int z64), .val (.int z74), .val (.int z85), .val (.ref b86), .val (.int z91)] []))
                      obtain ⟨f92, hf92⟩ : ∃ z, z = (if z34 = (0 : Int32) then (fun _ => (0 : Int32)) else (own_set (fun _ => (0 : Int32)) (0 : Int32) p2)) := ⟨_, rfl⟩
                      rw [← hf92] at A_b86_90j
                      refine own_go (fun _ k => XS.iload X90.here hx rfl (hb hby at_423) rfl k) ?_
                      show own_Fin _ _ _ _ _ _ _ (T90.setTop (mkF m 425 #[.val (.int p0), .val (.int p1), .val (.int p2), .val (.int p3), .val (.int p4), .val (.int (p0 &&& (7 : Int32))), .val (.int z1), .val (.int z2), .val (.int z6), .val (.int z10), .val (.int (p1 &&& (15 : Int32))), .val (.int z11), .val (.int z12), .val (.int z13), .val (.ref b14), .val (.ref b32rb), .val (.int z34), .val (.int z41), .val (.int z49), .val (.int z55), .val (.int z64), .val (.int z74), .val (.int z85), .val (.ref b86), .val (.int z91)] [(.int z41)]))
                      have hk94 : ∀ (T' : State) (L' : List Loc) (H' : Heap), Stand p l e room_1 s m #[(.int p0), (.int p1), (.int p2), (.int p3), (.int p4)] below meth c T' L' 10 49 → Fr n0 L' → T'.heap = H' → n0 ≤ H'.size → own_Arf Z H' b32rb .int f30 (fun i => .int (gR32 i)) → own_Arf Z H' b86 .int (6 : Int32) (fun i => .int ((if z41 = (0 : Int32) then f92 else (own_set f92 z91 p3)) i)) → own_Fin p.tables e below s (own_QL (some (.int (1 : Int32))) n0) 32 192 (T'.setTop (mkF m 437 #[.val (.int p0), .val (.int p1), .val (.int p2), .val (.int p3), .val (.int p4), .val (.int (p0 &&& (7 : Int32))), .val (.int z1), .val (.int z2), .val (.int z6), .val (.int z10), .val (.int (p1 &&& (15 : Int32))), .val (.int z11), .val (.int z12), .val (.int z13), .val (.ref b14), .val (.ref b32rb), .val (.int z34), .val (.int z41), .val (.int z49), .val (.int z55), .val (.int z64), .val (.int z74), .val (.int z85), .val (.ref b86), .val (.int (if z41 = (0 : Int32) then z91 else (z91 + (1 : Int32))))] [])) := by
                        intro T96 L96 h96j X96 N96 e96 Z96j A_b32rb_96j A_b86_96j
                        generalize hz97 : (if z41 = (0 : Int32) then z91 else (z91 + (1 : Int32))) = z97
                        show own_Fin _ _ _ _ _ _ _ (T96.setTop (mkF m 437 #[.val (.int p0), .val (.int p1), .val (.int p2), .val (.int p3), .val (.int p4), .val (.int (p0 &&& (7 : Int32))), .val (.int z1), .val (.int z2), .val (.int z6), .val (.int z10), .val (.int (p1 &&& (15 : Int32))), .val (.int z11), .val (.int z12), .val (.int z13), .val (.ref b14), .val (.ref b32rb), .val (.int z34), .val (.int z41), .val (.int z49), .val (.int z55), .val (.int z64), .val (.int z74), .val (.int z85), .val (.ref b86), .val (.int z97)] []))
                        obtain ⟨f98, hf98⟩ : ∃ z, z = (if z41 = (0 : Int32) then f92 else (own_set f92 z91 p3)) := ⟨_, rfl⟩
                        rw [← hf98] at A_b86_96j
                        refine own_go (fun _ k => XS.iload X96.here hx rfl (hb hby at_437) rfl k) ?_
                        show own_Fin _ _ _ _ _ _ _ (T96.setTop (mkF m 439 #[.val (.int p0), .val (.int p1), .val (.int p2), .val (.int p3), .val (.int p4), .val (.int (p0 &&& (7 : Int32))), .val (.int z1), .val (.int z2), .val (.int z6), .val (.int z10), .val (.int (p1 &&& (15 : Int32))), .val (.int z11), .val (.int z12), .val (.int z13), .val (.ref b14), .val (.ref b32rb), .val (.int z34), .val (.int z41), .val (.int z49), .val (.int z55), .val (.int z64), .val (.int z74), .val (.int z85), .val (.ref b86), .val (.int z97)] [(.int z49)]))
                        have hk100 : ∀ (T' : State) (L' : List Loc) (H' : Heap), Stand p l e room_1 s m #[(.int p0), (.int p1), (.int p2), (.int p3), (.int p4)] below meth c T' L' 10 49 → Fr n0 L' → T'.heap = H' → n0 ≤ H'.size → own_Arf Z H' b32rb .int f30 (fun i => .int (gR32 i)) → own_Arf Z H' b86 .int (6 : Int32) (fun i => .int ((if z49 = (0 : Int32) then f98 else (own_set f98 z97 p4)) i)) → own_Fin p.tables e below s (own_QL (some (.int (1 : Int32))) n0) 32 192 (T'.setTop (mkF m 452 #[.val (.int p0), .val (.int p1), .val (.int p2), .val (.int p3), .val (.int p4), .val (.int (p0 &&& (7 : Int32))), .val (.int z1), .val (.int z2), .val (.int z6), .val (.int z10), .val (.int (p1 &&& (15 : Int32))), .val (.int z11), .val (.int z12), .val (.int z13), .val (.ref b14), .val (.ref b32rb), .val (.int z34), .val (.int z41), .val (.int z49), .val (.int z55), .val (.int z64), .val (.int z74), .val (.int z85), .val (.ref b86), .val (.int (if z49 = (0 : Int32) then z97 else (z97 + (1 : Int32))))] [])) := by
                          intro T102 L102 h102j X102 N102 e102 Z102j A_b32rb_102j A_b86_102j
                          generalize hz103 : (if z49 = (0 : Int32) then z97 else (z97 + (1 : Int32))) = z103
                          show own_Fin _ _ _ _ _ _ _ (T102.setTop (mkF m 452 #[.val (.int p0), .val (.int p1), .val (.int p2), .val (.int p3), .val (.int p4), .val (.int (p0 &&& (7 : Int32))), .val (.int z1), .val (.int z2), .val (.int z6), .val (.int z10), .val (.int (p1 &&& (15 : Int32))), .val (.int z11), .val (.int z12), .val (.int z13), .val (.ref b14), .val (.ref b32rb), .val (.int z34), .val (.int z41), .val (.int z49), .val (.int z55), .val (.int z64), .val (.int z74), .val (.int z85), .val (.ref b86), .val (.int z103)] []))
                          obtain ⟨f104, hf104⟩ : ∃ z, z = (if z49 = (0 : Int32) then f98 else (own_set f98 z97 p4)) := ⟨_, rfl⟩
                          rw [← hf104] at A_b86_102j
                          refine own_go (fun _ k => XS.iload X102.here hx rfl (hb hby at_452) rfl k) ?_
                          show own_Fin _ _ _ _ _ _ _ (T102.setTop (mkF m 454 #[.val (.int p0), .val (.int p1), .val (.int p2), .val (.int p3), .val (.int p4), .val (.int (p0 &&& (7 : Int32))), .val (.int z1), .val (.int z2), .val (.int z6), .val (.int z10), .val (.int (p1 &&& (15 : Int32))), .val (.int z11), .val (.int z12), .val (.int z13), .val (.ref b14), .val (.ref b32rb), .val (.int z34), .val (.int z41), .val (.int z49), .val (.int z55), .val (.int z64), .val (.int z74), .val (.int z85), .val (.ref b86), .val (.int z103)] [(.int z64)]))
                          have hk106 : ∀ (T' : State) (L' : List Loc) (H' : Heap), Stand p l e room_1 s m #[(.int p0), (.int p1), (.int p2), (.int p3), (.int p4)] below meth c T' L' 10 49 → Fr n0 L' → T'.heap = H' → n0 ≤ H'.size → own_Arf Z H' b32rb .int f30 (fun i => .int (gR32 i)) → own_Arf Z H' b86 .int (6 : Int32) (fun i => .int ((if z64 = (0 : Int32) then f104 else (own_set f104 z103 p2)) i)) → own_Fin p.tables e below s (own_QL (some (.int (1 : Int32))) n0) 32 192 (T'.setTop (mkF m 466 #[.val (.int p0), .val (.int p1), .val (.int p2), .val (.int p3), .val (.int p4), .val (.int (p0 &&& (7 : Int32))), .val (.int z1), .val (.int z2), .val (.int z6), .val (.int z10), .val (.int (p1 &&& (15 : Int32))), .val (.int z11), .val (.int z12), .val (.int z13), .val (.ref b14), .val (.ref b32rb), .val (.int z34), .val (.int z41), .val (.int z49), .val (.int z55), .val (.int z64), .val (.int z74), .val (.int z85), .val (.ref b86), .val (.int (if z64 = (0 : Int32) then z103 else (z103 + (1 : Int32))))] [])) := by
                            intro T108 L108 h108j X108 N108 e108 Z108j A_b32rb_108j A_b86_108j
                            generalize hz109 : (if z64 = (0 : Int32) then z103 else (z103 + (1 : Int32))) = z109
                            show own_Fin _ _ _ _ _ _ _ (T108.setTop (mkF m 466 #[.val (.int p0), .val (.int p1), .val (.int p2), .val (.int p3), .val (.int p4), .val (.int (p0 &&& (7 : Int32))), .val (.int z1), .val (.int z2), .val (.int z6), .val (.int z10), .val (.int (p1 &&& (15 : Int32))), .val (.int z11), .val (.int z12), .val (.int z13), .val (.ref b14), .val (.ref b32rb), .val (.int z34), .val (.int z41), .val (.int z49), .val (.int z55), .val (.int z64), .val (.int z74), .val (.int z85), .val (.ref b86), .val (.int z109)] []))
                            obtain ⟨f110, hf110⟩ : ∃ z, z = (if z64 = (0 : Int32) then f104 else (own_set f104 z103 p2)) := ⟨_, rfl⟩
                            rw [← hf110] at A_b86_108j
                            refine own_go (fun _ k => XS.iload X108.here hx rfl (hb hby at_466) rfl k) ?_
                            show own_Fin _ _ _ _ _ _ _ (T108.setTop (mkF m 468 #[.val (.int p0), .val (.int p1), .val (.int p2), .val (.int p3), .val (.int p4), .val (.int (p0 &&& (7 : Int32))), .val (.int z1), .val (.int z2), .val (.int z6), .val (.int z10), .val (.int (p1 &&& (15 : Int32))), .val (.int z11), .val (.int z12), .val (.int z13), .val (.ref b14), .val (.ref b32rb), .val (.int z34), .val (.int z41), .val (.int z49), .val (.int z55), .val (.int z64), .val (.int z74), .val (.int z85), .val (.ref b86), .val (.int z109)] [(.int z74)]))
                            have hk112 : ∀ (T' : State) (L' : List Loc) (H' : Heap), Stand p l e room_1 s m #[(.int p0), (.int p1), (.int p2), (.int p3), (.int p4)] below meth c T' L' 10 49 → Fr n0 L' → T'.heap = H' → n0 ≤ H'.size → own_Arf Z H' b32rb .int f30 (fun i => .int (gR32 i)) → own_Arf Z H' b86 .int (6 : Int32) (fun i => .int ((if z74 = (0 : Int32) then f110 else (own_set f110 z109 p3)) i)) → own_Fin p.tables e below s (own_QL (some (.int (1 : Int32))) n0) 32 192 (T'.setTop (mkF m 480 #[.val (.int p0), .val (.int p1), .val (.int p2), .val (.int p3), .val (.int p4), .val (.int (p0 &&& (7 : Int32))), .val (.int z1), .val (.int z2), .val (.int z6), .val (.int z10), .val (.int (p1 &&& (15 : Int32))), .val (.int z11), .val (.int z12), .val (.int z13), .val (.ref b14), .val (.ref b32rb), .val (.int z34), .val (.int z41), .val (.int z49), .val (.int z55), .val (.int z64), .val (.int z74), .val (.int z85), .val (.ref b86), .val (.int (if z74 = (0 : Int32) then z109 else (z109 + (1 : Int32))))] [])) := by
                              intro T114 L114 h114j X114 N114 e114 Z114j A_b32rb_114j A_b86_114j
                              generalize hz115 : (if z74 = (0 : Int32) then z109 else (z109 + (1 : Int32))) = z115
                              show own_Fin _ _ _ _ _ _ _ (T114.setTop (mkF m 480 #[.val (.int p0), .val (.int p1), .val (.int p2), .val (.int p3), .val (.int p4), .val (.int (p0 &&& (7 : Int32))), .val (.int z1), .val (.int z2), .val (.int z6), .val (.int z10), .val (.int (p1 &&& (15 : Int32))), .val (.int z11), .val (.int z12), .val (.int z13), .val (.ref b14), .val (.ref b32rb), .val (.int z34), .val (.int z41), .val (.int z49), .val (.int z55), .val (.int z64), .val (.int z74), .val (.int z85), .val (.ref b86), .val (.int z115)] []))
                              obtain ⟨f116, hf116⟩ : ∃ z, z = (if z74 = (0 : Int32) then f110 else (own_set f110 z109 p3)) := ⟨_, rfl⟩
                              rw [← hf116] at A_b86_114j
                              refine own_go (fun _ k => XS.iload X114.here hx rfl (hb hby at_480) rfl k) ?_
                              show own_Fin _ _ _ _ _ _ _ (T114.setTop (mkF m 482 #[.val (.int p0), .val (.int p1), .val (.int p2), .val (.int p3), .val (.int p4), .val (.int (p0 &&& (7 : Int32))), .val (.int z1), .val (.int z2), .val (.int z6), .val (.int z10), .val (.int (p1 &&& (15 : Int32))), .val (.int z11), .val (.int z12), .val (.int z13), .val (.ref b14), .val (.ref b32rb), .val (.int z34), .val (.int z41), .val (.int z49), .val (.int z55), .val (.int z64), .val (.int z74), .val (.int z85), .val (.ref b86), .val (.int z115)] [(.int z85)]))
                              have hk118 : ∀ (T' : State) (L' : List Loc) (H' : Heap), Stand p l e room_1 s m #[(.int p0), (.int p1), (.int p2), (.int p3), (.int p4)] below meth c T' L' 10 49 → Fr n0 L' → T'.heap = H' → n0 ≤ H'.size → own_Arf Z H' b32rb .int f30 (fun i => .int (gR32 i)) → own_Arf Z H' b86 .int (6 : Int32) (fun i => .int ((if z85 = (0 : Int32) then f116 else (own_set f116 z115 p4)) i)) → own_Fin p.tables e below s (own_QL (some (.int (1 : Int32))) n0) 32 192 (T'.setTop (mkF m 495 #[.val (.int p0), .val (.int p1), .val (.int p2), .val (.int p3), .val (.int p4), .val (.int (p0 &&& (7 : Int32))), .val (.int z1), .val (.int z2), .val (.int z6), .val (.int z10), .val (.int (p1 &&& (15 : Int32))), .val (.int z11), .val (.int z12), .val (.int z13), .val (.ref b14), .val (.ref b32rb), .val (.int z34), .val (.int z41), .val (.int z49), .val (.int z55), .val (.int z64), .val (.int z74), .val (.int z85), .val (.ref b86), .val (.int (if z85 = (0 : Int32) then z115 else (z115 + (1 : Int32))))] [])) := by
                                intro T120 L120 h120j X120 N120 e120 Z120j A_b32rb_120j A_b86_120j
                                generalize hz121 : (if z85 = (0 : Int32) then z115 else (z115 + (1 : Int32))) = z121
                                show own_Fin _ _ _ _ _ _ _ (T120.setTop (mkF m 495 #[.val (.int p0), .val (.int p1), .val (.int p2), .val (.int p3), .val (.int p4), .val (.int (p0 &&& (7 : Int32))), .val (.int z1), .val (.int z2), .val (.int z6), .val (.int z10), .val (.int (p1 &&& (15 : Int32))), .val (.int z11), .val (.int z12), .val (.int z13), .val (.ref b14), .val (.ref b32rb), .val (.int z34), .val (.int z41), .val (.int z49), .val (.int z55), .val (.int z64), .val (.int z74), .val (.int z85), .val (.ref b86), .val (.int z121)] []))
                                obtain ⟨f122, hf122⟩ : ∃ z, z = (if z85 = (0 : Int32) then f116 else (own_set f116 z115 p4)) := ⟨_, rfl⟩
                                rw [← hf122] at A_b86_120j
                                refine own_go (fun _ k => XS.aload X120.here hx rfl (hb hby at_495) rfl rfl k) ?_
                                show own_Fin _ _ _ _ _ _ _ (T120.setTop (mkF m 497 #[.val (.int p0), .val (.int p1), .val (.int p2), .val (.int p3), .val (.int p4), .val (.int (p0 &&& (7 : Int32))), .val (.int z1), .val (.int z2), .val (.int z6), .val (.int z10), .val (.int (p1 &&& (15 : Int32))), .val (.int z11), .val (.int z12), .val (.int z13), .val (.ref b14), .val (.ref b32rb), .val (.int z34), .val (.int z41), .val (.int z49), .val (.int z55), .val (.int z64), .val (.int z74), .val (.int z85), .val (.ref b86), .val (.int z121)] [(.ref b32rb)]))
                                refine own_go (fun _ k => XS.ifnullNo X120.here hx rfl (hb hby at_497) rfl k) ?_
                                show own_Fin _ _ _ _ _ _ _ (T120.setTop (mkF m 500 #[.val (.int p0), .val (.int p1), .val (.int p2), .val (.int p3), .val (.int p4), .val (.int (p0 &&& (7 : Int32))), .val (.int z1), .val (.int z2), .val (.int z6), .val (.int z10), .val (.int (p1 &&& (15 : Int32))), .val (.int z11), .val (.int z12), .val (.int z13), .val (.ref b14), .val (.ref b32rb), .val (.int z34), .val (.int z41), .val (.int z49), .val (.int z55), .val (.int z64), .val (.int z74), .val (.int z85), .val (.ref b86), .val (.int z121)] []))
                                refine own_go (fun _ k => XS.aload X120.here hx rfl (hb hby at_500) rfl rfl k) ?_
                                refine own_go (fun tg k => own_alen X120 hx hZ e120 A_b32rb_120j (g := (mkF m 502 #[.val (.int p0), .val (.int p1), .val (.int p2), .val (.int p3), .val (.int p4), .val (.int (p0 &&& (7 : Int32))), .val (.int z1), .val (.int z2), .val (.int z6), .val (.int z10), .val (.int (p1 &&& (15 : Int32))), .val (.int z11), .val (.int z12), .val (.int z13), .val (.ref b14), .val (.ref b32rb), .val (.int z34), .val (.int z41), .val (.int z49), .val (.int z55), .val (.int z64), .val (.int z74), .val (.int z85), .val (.ref b86), .val (.int z121)] [(.ref b32rb)])) rfl rfl (hb hby at_502) tg k) ?_
                                show own_Fin _ _ _ _ _ _ _ (T120.setTop (mkF m 503 #[.val (.int p0), .val (.int p1), .val (.int p2), .val (.int p3), .val (.int p4), .val (.int (p0 &&& (7 : Int32))), .val (.int z1), .val (.int z2), .val (.int z6), .val (.int z10), .val (.int (p1 &&& (15 : Int32))), .val (.int z11), .val (.int z12), .val (.int z13), .val (.ref b14), .val (.ref b32rb), .val (.int z34), .val (.int z41), .val (.int z49), .val (.int z55), .val (.int z64), .val (.int z74), .val (.int z85), .val (.ref b86), .val (.int z121)] [(.int f30)]))
                                refine own_go (fun _ k => XS.iload X120.here hx rfl (hb hby at_503) rfl k) ?_
                                show own_Fin _ _ _ _ _ _ _ (T120.setTop (mkF m 505 #[.val (.int p0), .val (.int p1), .val (.int p2), .val (.int p3), .val (.int p4), .val (.int (p0 &&& (7 : Int32))), .val (.int z1), .val (.int z2), .val (.int z6), .val (.int z10), .val (.int (p1 &&& (15 : Int32))), .val (.int z11), .val (.int z12), .val (.int z13), .val (.ref b14), .val (.ref b32rb), .val (.int z34), .val (.int z41), .val (.int z49), .val (.int z55), .val (.int z64), .val (.int z74), .val (.int z85), .val (.ref b86), .val (.int z121)] [(.int z121), (.int f30)]))
                                by_cases hc123 : f30 = z121
                                · refine own_go (fun _ k => XS.icmpYes X120.here hx rfl (pc0 := 505) (pc' := 510) rfl (hb hby at_505) rfl (teq hc123).1 (by decide) (by decide) k) ?_
                                  show own_Fin _ _ _ _ _ _ _ (T120.setTop (mkF m 510 #[.val (.int p0), .val (.int p1), .val (.int p2), .val (.int p3), .val (.int p4), .val (.int (p0 &&& (7 : Int32))), .val (.int z1), .val (.int z2), .val (.int z6), .val (.int z10), .val (.int (p1 &&& (15 : Int32))), .val (.int z11), .val (.int z12), .val (.int z13), .val (.ref b14), .val (.ref b32rb), .val (.int z34), .val (.int z41), .val (.int z49), .val (.int z55), .val (.int z64), .val (.int z74), .val (.int z85), .val (.ref b86), .val (.int z121)] []))
                                  refine own_go (fun _ k => XS.aload X120.here hx rfl (hb hby at_510) rfl rfl k) ?_
                                  refine own_go (fun _ k => XS.aload X120.here hx rfl (hb hby at_512) rfl rfl k) ?_
                                  refine own_go (fun _ k => XS.iload X120.here hx rfl (hb hby at_514) rfl k) ?_
                                  refine own_go (fun _ k => XS.iconst X120.here hx rfl (hb hby at_516) k) ?_
                                  obtain ⟨_, _, ⟨T124, L124, k124, n124⟩, -, X124, ⟨Lc124, hQ124, l124, y124, z124⟩, st124⟩ := Jvm.LawKit.callS X120 hx (y := (⟨"com/example/reachability/reachability/CandidateListFoundElementsPinLaw", "at", "([I[III)Z"⟩ : MethodName)) hown (mvT hZ (hw _ (List.mem_of_getElem? (i := 79) rfl))) (mvT hZ (hw _ (List.mem_of_getElem? (i := 80) rfl))) (mvT hZ (hw _ (List.mem_of_getElem? (i := 77) rfl))) (mvT hZ (hw _ (List.mem_of_getElem? (i := 81) rfl))) (by decide) (backOf (W := 0) (rm13 l Z a0 hw [] b32rb b86 z121 (0 : Int32) f30 gR32 (6 : Int32) f122 h120j n0 Z120j A_b32rb_120j A_b86_120j ⟨hc123.symm, rfl, by decide, by decide⟩) hZ (hw _ (List.mem_of_getElem? (i := 81) rfl)) (hw _ (List.mem_of_getElem? (i := 77) rfl)) (by decide) (by decide)) (g := (mkF m 517 #[.val (.int p0), .val (.int p1), .val (.int p2), .val (.int p3), .val (.int p4), .val (.int (p0 &&& (7 : Int32))), .val (.int z1), .val (.int z2), .val (.int z6), .val (.int z10), .val (.int (p1 &&& (15 : Int32))), .val (.int z11), .val (.int z12), .val (.int z13), .val (.ref b14), .val (.ref b32rb), .val (.int z34), .val (.int z41), .val (.int z49), .val (.int z55), .val (.int z64), .val (.int z74), .val (.int z85), .val (.ref b86), .val (.int z121)] [(.int (0 : Int32)), (.int z121), (.ref b86), (.ref b32rb)])) rfl (by rw [hml]; rfl) (argsL := [(.ref b32rb), (.ref b86), (.int z121), (.int (0 : Int32))]) (rest := []) (lenOf own_pd574 rfl) rfl (by show 2 * 0 + _ ≤ _; exact Nat.le_of_eq rfl) (hb hby at_517) (fun _ _ => ⟨rfl, e120, (by decide : 10 + 0 ≤ _), (by decide : 49 + 0 ≤ _)⟩)
                                  dsimp only [Pt.U, Pt.locs, Pt.cells, Pt.slots] at X124 l124 y124 z124 st124 hQ124
                                  replace y124 : 10 = k124 := y124.symm
                                  replace z124 : 49 = n124 := z124.symm
                                  subst y124 z124
                                  obtain ⟨rfl, N124q, e124⟩ := hQ124
                                  have N124 : Fr n0 L124 := by rw [l124]; exact Fr.app N120 N124q
                                  refine own_go (fun tg k => st124 tg k) ?_
                                  show own_Fin _ _ _ _ _ _ _ (T124.setTop (mkF m 520 #[.val (.int p0), .val (.int p1), .val (.int p2), .val (.int p3), .val (.int p4), .val (.int (p0 &&& (7 : Int32))), .val (.int z1), .val (.int z2), .val (.int z6), .val (.int z10), .val (.int (p1 &&& (15 : Int32))), .val (.int z11), .val (.int z12), .val (.int z13), .val (.ref b14), .val (.ref b32rb), .val (.int z34), .val (.int z41), .val (.int z49), .val (.int z55), .val (.int z64), .val (.int z74), .val (.int z85), .val (.ref b86), .val (.int z121)] [(.int (own_f13 z121 (0 : Int32) f30 gR32 (6 : Int32) f122))]))
                                  by_cases hc125 : (own_f13 z121 (0 : Int32) f30 gR32 (6 : Int32) f122) = (0 : Int32)
                                  · refine own_go (fun _ k => XS.ifYes X124.here hx rfl (pc0 := 520) (pc' := 592) rfl (hb hby at_520) rfl ((if0 _ _).trans (teq hc125).1) (by decide) (by decide) k) ?_
                                    show own_Fin _ _ _ _ _ _ _ (T124.setTop (mkF m 592 #[.val (.int p0), .val (.int p1), .val (.int p2), .val (.int p3), .val (.int p4), .val (.int (p0 &&& (7 : Int32))), .val (.int z1), .val (.int z2), .val (.int z6), .val (.int z10), .val (.int (p1 &&& (15 : Int32))), .val (.int z11), .val (.int z12), .val (.int z13), .val (.ref b14), .val (.ref b32rb), .val (.int z34), .val (.int z41), .val (.int z49), .val (.int z55), .val (.int z64), .val (.int z74), .val (.int z85), .val (.ref b86), .val (.int z121)] []))
                                    refine own_go (fun _ k => XS.iconst X124.here hx rfl (hb hby at_592) k) ?_
                                    show own_Fin _ _ _ _ _ _ _ (T124.setTop (mkF m 593 #[.val (.int p0), .val (.int p1), .val (.int p2), .val (.int p3), .val (.int p4), .val (.int (p0 &&& (7 : Int32))), .val (.int z1), .val (.int z2), .val (.int z6), .val (.int z10), .val (.int (p1 &&& (15 : Int32))), .val (.int z11), .val (.int z12), .val (.int z13), .val (.ref b14), .val (.ref b32rb), .val (.int z34), .val (.int z41), .val (.int z49), .val (.int z55), .val (.int z64), .val (.int z74), .val (.int z85), .val (.ref b86), .val (.int z121)] [(.int (0 : Int32))]))
                                    refine own_ret X124 hx hlk Bd.returns rfl (Or.inl ⟨rfl, by simp, _, rfl⟩) (hb hby at_593) (Nat.le_of_ble_eq_true rfl) (Nat.le_of_ble_eq_true rfl) ?_
                                    exact ⟨(own_lf_own_f0_1 (p0 := p0) (p1 := p1) (p2 := p2) (p3 := p3) (p4 := p4) (gB23 := gB23) (gR32 := gR32) hz1 hz2 hz6 hz10 hz11 hz12 hz13 hf16 hf17 hf18 hf30 hz34 hz41 hz49 hz55 hz64 hz74 hz85 hz91 hf92 hz97 hf98 hz103 hf104 hz109 hf110 hz115 hf116 hz121 hf122 hc123 hc125).trans (congrArg (fun z => some (Value.int z)) (own_plain p0 p1 p2 p3 p4 gB23 gR32 (own_hy1 (p0 := p0) (p1 := p1) (p2 := p2) (p3 := p3) (p4 := p4) (gB23 := gB23) (gR32 := gR32) hz1 hz2 hf16 hf17 hf18 Pq23_23) (own_hy2 (p0 := p0) (p1 := p1) (p2 := p2) (p3 := p3) (p4 := p4) (gB23 := gB23) (gR32 := gR32) hz1 hz2 hz6 hz10 hz11 hz12 hz13 hf16 hf17 hf18 hf20 hf21 hf22 hf30 hf31 Pq32_1))), N124, trivial⟩
                                  · refine own_go (fun _ k => XS.ifNo X124.here hx rfl (hb hby at_520) rfl ((if0 _ _).trans (feq hc125).1) k) ?_
                                    show own_Fin _ _ _ _ _ _ _ (T124.setTop (mkF m 523 #[.val (.int p0), .val (.int p1), .val (.int p2), .val (.int p3), .val (.int p4), .val (.int (p0 &&& (7 : Int32))), .val (.int z1), .val (.int z2), .val (.int z6), .val (.int z10), .val (.int (p1 &&& (15 : Int32))), .val (.int z11), .val (.int z12), .val (.int z13), .val (.ref b14), .val (.ref b32rb), .val (.int z34), .val (.int z41), .val (.int z49), .val (.int z55), .val (.int z64), .val (.int z74), .val (.int z85), .val (.ref b86), .val (.int z121)] []))
                                    refine own_go (fun _ k => XS.aload X124.here hx rfl (hb hby at_523) rfl rfl k) ?_
                                    refine own_go (fun _ k => XS.aload X124.here hx rfl (hb hby at_525) rfl rfl k) ?_
                                    refine own_go (fun _ k => XS.iload X124.here hx rfl (hb hby at_527) rfl k) ?_
                                    refine own_go (fun _ k => XS.iconst X124.here hx rfl (hb hby at_529) k) ?_
                                    obtain ⟨_, _, ⟨T126, L126, k126, n126⟩, -, X126, ⟨Lc126, hQ126, l126, y126, z126⟩, st126⟩ := Jvm.LawKit.callS X124 hx (y := (⟨"com/example/reachability/reachability/CandidateListFoundElementsPinLaw", "at", "([I[III)Z"⟩ : MethodName)) hown (mvT hZ (hw _ (List.mem_of_getElem? (i := 79) rfl))) (mvT hZ (hw _ (List.mem_of_getElem? (i := 80) rfl))) (mvT hZ (hw _ (List.mem_of_getElem? (i := 77) rfl))) (mvT hZ (hw _ (List.mem_of_getElem? (i := 81) rfl))) (by decide) (backOf (W := 0) (rm13 l Z a0 hw [] b32rb b86 z121 (1 : Int32) f30 gR32 (6 : Int32) f122 h120j n0 Z120j A_b32rb_120j A_b86_120j ⟨hc123.symm, rfl, by decide, by decide⟩) hZ (hw _ (List.mem_of_getElem? (i := 81) rfl)) (hw _ (List.mem_of_getElem? (i := 77) rfl)) (by decide) (by decide)) (g := (mkF m 530 #[.val (.int p0), .val (.int p1), .val (.int p2), .val (.int p3), .val (.int p4), .val (.int (p0 &&& (7 : Int32))), .val (.int z1), .val (.int z2), .val (.int z6), .val (.int z10), .val (.int (p1 &&& (15 : Int32))), .val (.int z11), .val (.int z12), .val (.int z13), .val (.ref b14), .val (.ref b32rb), .val (.int z34), .val (.int z41), .val (.int z49), .val (.int z55), .val (.int z64), .val (.int z74), .val (.int z85), .val (.ref b86), .val (.int z121)] [(.int (1 : Int32)), (.int z121), (.ref b86), (.ref b32rb)])) rfl (by rw [hml]; rfl) (argsL := [(.ref b32rb), (.ref b86), (.int z121), (.int (1 : Int32))]) (rest := []) (lenOf own_pd574 rfl) rfl (by show 2 * 0 + _ ≤ _; exact Nat.le_of_eq rfl) (hb hby at_530) (fun _ _ => ⟨rfl, e124, (by decide : 10 + 0 ≤ _), (by decide : 49 + 0 ≤ _)⟩)
                                    dsimp only [Pt.U, Pt.locs, Pt.cells, Pt.slots] at X126 l126 y126 z126 st126 hQ126
                                    replace y126 : 10 = k126 := y126.symm
                                    replace z126 : 49 = n126 := z126.symm
                                    subst y126 z126
                                    obtain ⟨rfl, N126q, e126⟩ := hQ126
                                    have N126 : Fr n0 L126 := by rw [l126]; exact Fr.app N124 N126q
                                    refine own_go (fun tg k => st126 tg k) ?_
                                    show own_Fin _ _ _ _ _ _ _ (T126.setTop (mkF m 533 #[.val (.int p0), .val (.int p1), .val (.int p2), .val (.int p3), .val (.int p4), .val (.int (p0 &&& (7 : Int32))), .val (.int z1), .val (.int z2), .val (.int z6), .val (.int z10), .val (.int (p1 &&& (15 : Int32))), .val (.int z11), .val (.int z12), .val (.int z13), .val (.ref b14), .val (.ref b32rb), .val (.int z34), .val (.int z41), .val (.int z49), .val (.int z55), .val (.int z64), .val (.int z74), .val (.int z85), .val (.ref b86), .val (.int z121)] [(.int (own_f13 z121 (1 : Int32) f30 gR32 (6 : Int32) f122))]))
                                    by_cases hc127 : (own_f13 z121 (1 : Int32) f30 gR32 (6 : Int32) f122) = (0 : Int32)
                                    · refine own_go (fun _ k => XS.ifYes X126.here hx rfl (pc0 := 533) (pc' := 592) rfl (hb hby at_533) rfl ((if0 _ _).trans (teq hc127).1) (by decide) (by decide) k) ?_
                                      show own_Fin _ _ _ _ _ _ _ (T126.setTop (mkF m 592 #[.val (.int p0), .val (.int p1), .val (.int p2), .val (.int p3), .val (.int p4), .val (.int (p0 &&& (7 : Int32))), .val (.int z1), .val (.int z2), .val (.int z6), .val (.int z10), .val (.int (p1 &&& (15 : Int32))), .val (.int z11), .val (.int z12), .val (.int z13), .val (.ref b14), .val (.ref b32rb), .val (.int z34), .val (.int z41), .val (.int z49), .val (.int z55), .val (.int z64), .val (.int z74), .val (.int z85), .val (.ref b86), .val (.int z121)] []))
                                      refine own_go (fun _ k => XS.iconst X126.here hx rfl (hb hby at_592) k) ?_
                                      show own_Fin _ _ _ _ _ _ _ (T126.setTop (mkF m 593 #[.val (.int p0), .val (.int p1), .val (.int p2), .val (.int p3), .val (.int p4), .val (.int (p0 &&& (7 : Int32))), .val (.int z1), .val (.int z2), .val (.int z6), .val (.int z10), .val (.int (p1 &&& (15 : Int32))), .val (.int z11), .val (.int z12), .val (.int z13), .val (.ref b14), .val (.ref b32rb), .val (.int z34), .val (.int z41), .val (.int z49), .val (.int z55), .val (.int z64), .val (.int z74), .val (.int z85), .val (.ref b86), .val (.int z121)] [(.int (0 : Int32))]))
                                      refine own_ret X126 hx hlk Bd.returns rfl (Or.inl ⟨rfl, by simp, _, rfl⟩) (hb hby at_593) (Nat.le_of_ble_eq_true rfl) (Nat.le_of_ble_eq_true rfl) ?_
                                      exact ⟨(own_lf_own_f0_2 (p0 := p0) (p1 := p1) (p2 := p2) (p3 := p3) (p4 := p4) (gB23 := gB23) (gR32 := gR32) hz1 hz2 hz6 hz10 hz11 hz12 hz13 hf16 hf17 hf18 hf30 hz34 hz41 hz49 hz55 hz64 hz74 hz85 hz91 hf92 hz97 hf98 hz103 hf104 hz109 hf110 hz115 hf116 hz121 hf122 hc123 hc125 hc127).trans (congrArg (fun z => some (Value.int z)) (own_plain p0 p1 p2 p3 p4 gB23 gR32 (own_hy1 (p0 := p0) (p1 := p1) (p2 := p2) (p3 := p3) (p4 := p4) (gB23 := gB23) (gR32 := gR32) hz1 hz2 hf16 hf17 hf18 Pq23_23) (own_hy2 (p0 := p0) (p1 := p1) (p2 := p2) (p3 := p3) (p4 := p4) (gB23 := gB23) (gR32 := gR32) hz1 hz2 hz6 hz10 hz11 hz12 hz13 hf16 hf17 hf18 hf20 hf21 hf22 hf30 hf31 Pq32_1))), N126, trivial⟩
                                    · refine own_go (fun _ k => XS.ifNo X126.here hx rfl (hb hby at_533) rfl ((if0 _ _).trans (feq hc127).1) k) ?_
                                      show own_Fin _ _ _ _ _ _ _ (T126.setTop (mkF m 536 #[.val (.int p0), .val (.int p1), .val (.int p2), .val (.int p3), .val (.int p4), .val (.int (p0 &&& (7 : Int32))), .val (.int z1), .val (.int z2), .val (.int z6), .val (.int z10), .val (.int (p1 &&& (15 : Int32))), .val (.int z11), .val (.int z12), .val (.int z13), .val (.ref b14), .val (.ref b32rb), .val (.int z34), .val (.int z41), .val (.int z49), .val (.int z55), .val (.int z64), .val (.int z74), .val (.int z85), .val (.ref b86), .val (.int z121)] []))
                                      refine own_go (fun _ k => XS.aload X126.here hx rfl (hb hby at_536) rfl rfl k) ?_
                                      refine own_go (fun _ k => XS.aload X126.here hx rfl (hb hby at_538) rfl rfl k) ?_
                                      refine own_go (fun _ k => XS.iload X126.here hx rfl (hb hby at_540) rfl k) ?_
                                      refine own_go (fun _ k => XS.iconst X126.here hx rfl (hb hby at_542) k) ?_
                                      obtain ⟨_, _, ⟨T128, L128, k128, n128⟩, -, X128, ⟨Lc128, hQ128, l128, y128, z128⟩, st128⟩ := Jvm.LawKit.callS X126 hx (y := (⟨"com/example/reachability/reachability/CandidateListFoundElementsPinLaw", "at", "([I[III)Z"⟩ : MethodName)) hown (mvT hZ (hw _ (List.mem_of_getElem? (i := 79) rfl))) (mvT hZ (hw _ (List.mem_of_getElem? (i := 80) rfl))) (mvT hZ (hw _ (List.mem_of_getElem? (i := 77) rfl))) (mvT hZ (hw _ (List.mem_of_getElem? (i := 81) rfl))) (by decide) (backOf (W := 0) (rm13 l Z a0 hw [] b32rb b86 z121 (2 : Int32) f30 gR32 (6 : Int32) f122 h120j n0 Z120j A_b32rb_120j A_b86_120j ⟨hc123.symm, rfl, by decide, by decide⟩) hZ (hw _ (List.mem_of_getElem? (i := 81) rfl)) (hw _ (List.mem_of_getElem? (i := 77) rfl)) (by decide) (by decide)) (g := (mkF m 543 #[.val (.int p0), .val (.int p1), .val (.int p2), .val (.int p3), .val (.int p4), .val (.int (p0 &&& (7 : Int32))), .val (.int z1), .val (.int z2), .val (.int z6), .val (.int z10), .val (.int (p1 &&& (15 : Int32))), .val (.int z11), .val (.int z12), .val (.int z13), .val (.ref b14), .val (.ref b32rb), .val (.int z34), .val (.int z41), .val (.int z49), .val (.int z55), .val (.int z64), .val (.int z74), .val (.int z85), .val (.ref b86), .val (.int z121)] [(.int (2 : Int32)), (.int z121), (.ref b86), (.ref b32rb)])) rfl (by rw [hml]; rfl) (argsL := [(.ref b32rb), (.ref b86), (.int z121), (.int (2 : Int32))]) (rest := []) (lenOf own_pd574 rfl) rfl (by show 2 * 0 + _ ≤ _; exact Nat.le_of_eq rfl) (hb hby at_543) (fun _ _ => ⟨rfl, e126, (by decide : 10 + 0 ≤ _), (by decide : 49 + 0 ≤ _)⟩)
                                      dsimp only [Pt.U, Pt.locs, Pt.cells, Pt.slots] at X128 l128 y128 z128 st128 hQ128
                                      replace y128 : 10 = k128 := y128.symm
                                      replace z128 : 49 = n128 := z128.symm
                                      subst y128 z128
                                      obtain ⟨rfl, N128q, e128⟩ := hQ128
                                      have N128 : Fr n0 L128 := by rw [l128]; exact Fr.app N126 N128q
                                      refine own_go (fun tg k => st128 tg k) ?_
                                      show own_Fin _ _ _ _ _ _ _ (T128.setTop (mkF m 546 #[.val (.int p0), .val (.int p1), .val (.int p2), .val (.int p3), .val (.int p4), .val (.int (p0 &&& (7 : Int32))), .val (.int z1), .val (.int z2), .val (.int z6), .val (.int z10), .val (.int (p1 &&& (15 : Int32))), .val (.int z11), .val (.int z12), .val (.int z13), .val (.ref b14), .val (.ref b32rb), .val (.int z34), .val (.int z41), .val (.int z49), .val (.int z55), .val (.int z64), .val (.int z74), .val (.int z85), .val (.ref b86), .val (.int z121)] [(.int (own_f13 z121 (2 : Int32) f30 gR32 (6 : Int32) f122))]))
                                      by_cases hc129 : (own_f13 z121 (2 : Int32) f30 gR32 (6 : Int32) f122) = (0 : Int32)
                                      · refine own_go (fun _ k => XS.ifYes X128.here hx rfl (pc0 := 546) (pc' := 592) rfl (hb hby at_546) rfl ((if0 _ _).trans (teq hc129).1) (by decide) (by decide) k) ?_
                                        show own_Fin _ _ _ _ _ _ _ (T128.setTop (mkF m 592 #[.val (.int p0), .val (.int p1), .val (.int p2), .val (.int p3), .val (.int p4), .val (.int (p0 &&& (7 : Int32))), .val (.int z1), .val (.int z2), .val (.int z6), .val (.int z10), .val (.int (p1 &&& (15 : Int32))), .val (.int z11), .val (.int z12), .val (.int z13), .val (.ref b14), .val (.ref b32rb), .val (.int z34), .val (.int z41), .val (.int z49), .val (.int z55), .val (.int z64), .val (.int z74), .val (.int z85), .val (.ref b86), .val (.int z121)] []))
                                        refine own_go (fun _ k => XS.iconst X128.here hx rfl (hb hby at_592) k) ?_
                                        show own_Fin _ _ _ _ _ _ _ (T128.setTop (mkF m 593 #[.val (.int p0), .val (.int p1), .val (.int p2), .val (.int p3), .val (.int p4), .val (.int (p0 &&& (7 : Int32))), .val (.int z1), .val (.int z2), .val (.int z6), .val (.int z10), .val (.int (p1 &&& (15 : Int32))), .val (.int z11), .val (.int z12), .val (.int z13), .val (.ref b14), .val (.ref b32rb), .val (.int z34), .val (.int z41), .val (.int z49), .val (.int z55), .val (.int z64), .val (.int z74), .val (.int z85), .val (.ref b86), .val (.int z121)] [(.int (0 : Int32))]))
                                        refine own_ret X128 hx hlk Bd.returns rfl (Or.inl ⟨rfl, by simp, _, rfl⟩) (hb hby at_593) (Nat.le_of_ble_eq_true rfl) (Nat.le_of_ble_eq_true rfl) ?_
                                        exact ⟨(own_lf_own_f0_3 (p0 := p0) (p1 := p1) (p2 := p2) (p3 := p3) (p4 := p4) (gB23 := gB23) (gR32 := gR32) hz1 hz2 hz6 hz10 hz11 hz12 hz13 hf16 hf17 hf18 hf30 hz34 hz41 hz49 hz55 hz64 hz74 hz85 hz91 hf92 hz97 hf98 hz103 hf104 hz109 hf110 hz115 hf116 hz121 hf122 hc123 hc125 hc127 hc129).trans (congrArg (fun z => some (Value.int z)) (own_plain p0 p1 p2 p3 p4 gB23 gR32 (own_hy1 (p0 := p0) (p1 := p1) (p2 := p2) (p3 := p3) (p4 := p4) (gB23 := gB23) (gR32 := gR32) hz1 hz2 hf16 hf17 hf18 Pq23_23) (own_hy2 (p0 := p0) (p1 := p1) (p2 := p2) (p3 := p3) (p4 := p4) (gB23 := gB23) (gR32 := gR32) hz1 hz2 hz6 hz10 hz11 hz12 hz13 hf16 hf17 hf18 hf20 hf21 hf22 hf30 hf31 Pq32_1))), N128, trivial⟩
                                      · refine own_go (fun _ k => XS.ifNo X128.here hx rfl (hb hby at_546) rfl ((if0 _ _).trans (feq hc129).1) k) ?_
                                        show own_Fin _ _ _ _ _ _ _ (T128.setTop (mkF m 549 #[.val (.int p0), .val (.int p1), .val (.int p2), .val (.int p3), .val (.int p4), .val (.int (p0 &&& (7 : Int32))), .val (.int z1), .val (.int z2), .val (.int z6), .val (.int z10), .val (.int (p1 &&& (15 : Int32))), .val (.int z11), .val (.int z12), .val (.int z13), .val (.ref b14), .val (.ref b32rb), .val (.int z34), .val (.int z41), .val (.int z49), .val (.int z55), .val (.int z64), .val (.int z74), .val (.int z85), .val (.ref b86), .val (.int z121)] []))
                                        refine own_go (fun _ k => XS.aload X128.here hx rfl (hb hby at_549) rfl rfl k) ?_
                                        refine own_go (fun _ k => XS.aload X128.here hx rfl (hb hby at_551) rfl rfl k) ?_
                                        refine own_go (fun _ k => XS.iload X128.here hx rfl (hb hby at_553) rfl k) ?_
                                        refine own_go (fun _ k => XS.iconst X128.here hx rfl (hb hby at_555) k) ?_
                                        obtain ⟨_, _, ⟨T130, L130, k130, n130⟩, -, X130, ⟨Lc130, hQ130, l130, y130, z130⟩, st130⟩ := Jvm.LawKit.callS X128 hx (y := (⟨"com/example/reachability/reachability/CandidateListFoundElementsPinLaw", "at", "([I[III)Z"⟩ : MethodName)) hown (mvT hZ (hw _ (List.mem_of_getElem? (i := 79) rfl))) (mvT hZ (hw _ (List.mem_of_getElem? (i := 80) rfl))) (mvT hZ (hw _ (List.mem_of_getElem? (i := 77) rfl))) (mvT hZ (hw _ (List.mem_of_getElem? (i := 81) rfl))) (by decide) (backOf (W := 0) (rm13 l Z a0 hw [] b32rb b86 z121 (3 : Int32) f30 gR32 (6 : Int32) f122 h120j n0 Z120j A_b32rb_120j A_b86_120j ⟨hc123.symm, rfl, by decide, by decide⟩) hZ (hw _ (List.mem_of_getElem? (i := 81) rfl)) (hw _ (List.mem_of_getElem? (i := 77) rfl)) (by decide) (by decide)) (g := (mkF m 556 #[.val (.int p0), .val (.int p1), .val (.int p2), .val (.int p3), .val (.int p4), .val (.int (p0 &&& (7 : Int32))), .val (.int z1), .val (.int z2), .val (.int z6), .val (.int z10), .val (.int (p1 &&& (15 : Int32))), .val (.int z11), .val (.int z12), .val (.int z13), .val (.ref b14), .val (.ref b32rb), .val (.int z34), .val (.int z41), .val (.int z49), .val (.int z55), .val (.int z64), .val (.int z74), .val (.int z85), .val (.ref b86), .val (.int z121)] [(.int (3 : Int32)), (.int z121), (.ref b86), (.ref b32rb)])) rfl (by rw [hml]; rfl) (argsL := [(.ref b32rb), (.ref b86), (.int z121), (.int (3 : Int32))]) (rest := []) (lenOf own_pd574 rfl) rfl (by show 2 * 0 + _ ≤ _; exact Nat.le_of_eq rfl) (hb hby at_556) (fun _ _ => ⟨rfl, e128, (by decide : 10 + 0 ≤ _), (by decide : 49 + 0 ≤ _)⟩)
                                        dsimp only [Pt.U, Pt.locs, Pt.cells, Pt.slots] at X130 l130 y130 z130 st130 hQ130
                                        replace y130 : 10 = k130 := y130.symm
                                        replace z130 : 49 = n130 := z130.symm
                                        subst y130 z130
                                        obtain ⟨rfl, N130q, e130⟩ := hQ130
                                        have N130 : Fr n0 L130 := by rw [l130]; exact Fr.app N128 N130q
                                        refine own_go (fun tg k => st130 tg k) ?_
                                        show own_Fin _ _ _ _ _ _ _ (T130.setTop (mkF m 559 #[.val (.int p0), .val (.int p1), .val (.int p2), .val (.int p3), .val (.int p4), .val (.int (p0 &&& (7 : Int32))), .val (.int z1), .val (.int z2), .val (.int z6), .val (.int z10), .val (.int (p1 &&& (15 : Int32))), .val (.int z11), .val (.int z12), .val (.int z13), .val (.ref b14), .val (.ref b32rb), .val (.int z34), .val (.int z41), .val (.int z49), .val (.int z55), .val (.int z64), .val (.int z74), .val (.int z85), .val (.ref b86), .val (.int z121)] [(.int (own_f13 z121 (3 : Int32) f30 gR32 (6 : Int32) f122))]))
                                        by_cases hc131 : (own_f13 z121 (3 : Int32) f30 gR32 (6 : Int32) f122) = (0 : Int32)
                                        · refine own_go (fun _ k => XS.ifYes X130.here hx rfl (pc0 := 559) (pc' := 592) rfl (hb hby at_559) rfl ((if0 _ _).trans (teq hc131).1) (by decide) (by decide) k) ?_
                                          show own_Fin _ _ _ _ _ _ _ (T130.setTop (mkF m 592 #[.val (.int p0), .val (.int p1), .val (.int p2), .val (.int p3), .val (.int p4), .val (.int (p0 &&& (7 : Int32))), .val (.int z1), .val (.int z2), .val (.int z6), .val (.int z10), .val (.int (p1 &&& (15 : Int32))), .val (.int z11), .val (.int z12), .val (.int z13), .val (.ref b14), .val (.ref b32rb), .val (.int z34), .val (.int z41), .val (.int z49), .val (.int z55), .val (.int z64), .val (.int z74), .val (.int z85), .val (.ref b86), .val (.int z121)] []))
                                          refine own_go (fun _ k => XS.iconst X130.here hx rfl (hb hby at_592) k) ?_
                                          show own_Fin _ _ _ _ _ _ _ (T130.setTop (mkF m 593 #[.val (.int p0), .val (.int p1), .val (.int p2), .val (.int p3), .val (.int p4), .val (.int (p0 &&& (7 : Int32))), .val (.int z1), .val (.int z2), .val (.int z6), .val (.int z10), .val (.int (p1 &&& (15 : Int32))), .val (.int z11), .val (.int z12), .val (.int z13), .val (.ref b14), .val (.ref b32rb), .val (.int z34), .val (.int z41), .val (.int z49), .val (.int z55), .val (.int z64), .val (.int z74), .val (.int z85), .val (.ref b86), .val (.int z121)] [(.int (0 : Int32))]))
                                          refine own_ret X130 hx hlk Bd.returns rfl (Or.inl ⟨rfl, by simp, _, rfl⟩) (hb hby at_593) (Nat.le_of_ble_eq_true rfl) (Nat.le_of_ble_eq_true rfl) ?_
                                          exact ⟨(own_lf_own_f0_4 (p0 := p0) (p1 := p1) (p2 := p2) (p3 := p3) (p4 := p4) (gB23 := gB23) (gR32 := gR32) hz1 hz2 hz6 hz10 hz11 hz12 hz13 hf16 hf17 hf18 hf30 hz34 hz41 hz49 hz55 hz64 hz74 hz85 hz91 hf92 hz97 hf98 hz103 hf104 hz109 hf110 hz115 hf116 hz121 hf122 hc123 hc125 hc127 hc129 hc131).trans (congrArg (fun z => some (Value.int z)) (own_plain p0 p1 p2 p3 p4 gB23 gR32 (own_hy1 (p0 := p0) (p1 := p1) (p2 := p2) (p3 := p3) (p4 := p4) (gB23 := gB23) (gR32 := gR32) hz1 hz2 hf16 hf17 hf18 Pq23_23) (own_hy2 (p0 := p0) (p1 := p1) (p2 := p2) (p3 := p3) (p4 := p4) (gB23 := gB23) (gR32 := gR32) hz1 hz2 hz6 hz10 hz11 hz12 hz13 hf16 hf17 hf18 hf20 hf21 hf22 hf30 hf31 Pq32_1))), N130, trivial⟩
                                        · refine own_go (fun _ k => XS.ifNo X130.here hx rfl (hb hby at_559) rfl ((if0 _ _).trans (feq hc131).1) k) ?_
                                          show own_Fin _ _ _ _ _ _ _ (T130.setTop (mkF m 562 #[.val (.int p0), .val (.int p1), .val (.int p2), .val (.int p3), .val (.int p4), .val (.int (p0 &&& (7 : Int32))), .val (.int z1), .val (.int z2), .val (.int z6), .val (.int z10), .val (.int (p1 &&& (15 : Int32))), .val (.int z11), .val (.int z12), .val (.int z13), .val (.ref b14), .val (.ref b32rb), .val (.int z34), .val (.int z41), .val (.int z49), .val (.int z55), .val (.int z64), .val (.int z74), .val (.int z85), .val (.ref b86), .val (.int z121)] []))
                                          refine own_go (fun _ k => XS.aload X130.here hx rfl (hb hby at_562) rfl rfl k) ?_
                                          refine own_go (fun _ k => XS.aload X130.here hx rfl (hb hby at_564) rfl rfl k) ?_
                                          refine own_go (fun _ k => XS.iload X130.here hx rfl (hb hby at_566) rfl k) ?_
                                          refine own_go (fun _ k => XS.iconst X130.here hx rfl (hb hby at_568) k) ?_
                                          obtain ⟨_, _, ⟨T132, L132, k132, n132⟩, -, X132, ⟨Lc132, hQ132, l132, y132, z132⟩, st132⟩ := Jvm.LawKit.callS X130 hx (y := (⟨"com/example/reachability/reachability/CandidateListFoundElementsPinLaw", "at", "([I[III)Z"⟩ : MethodName)) hown (mvT hZ (hw _ (List.mem_of_getElem? (i := 79) rfl))) (mvT hZ (hw _ (List.mem_of_getElem? (i := 80) rfl))) (mvT hZ (hw _ (List.mem_of_getElem? (i := 77) rfl))) (mvT hZ (hw _ (List.mem_of_getElem? (i := 81) rfl))) (by decide) (backOf (W := 0) (rm13 l Z a0 hw [] b32rb b86 z121 (4 : Int32) f30 gR32 (6 : Int32) f122 h120j n0 Z120j A_b32rb_120j A_b86_120j ⟨hc123.symm, rfl, by decide, by decide⟩) hZ (hw _ (List.mem_of_getElem? (i := 81) rfl)) (hw _ (List.mem_of_getElem? (i := 77) rfl)) (by decide) (by decide)) (g := (mkF m 569 #[.val (.int p0), .val (.int p1), .val (.int p2), .val (.int p3), .val (.int p4), .val (.int (p0 &&& (7 : Int32))), .val (.int z1), .val (.int z2), .val (.int z6), .val (.int z10), .val (.int (p1 &&& (15 : Int32))), .val (.int z11), .val (.int z12), .val (.int z13), .val (.ref b14), .val (.ref b32rb), .val (.int z34), .val (.int z41), .val (.int z49), .val (.int z55), .val (.int z64), .val (.int z74), .val (.int z85), .val (.ref b86), .val (.int z121)] [(.int (4 : Int32)), (.int z121), (.ref b86), (.ref b32rb)])) rfl (by rw [hml]; rfl) (argsL := [(.ref b32rb), (.ref b86), (.int z121), (.int (4 : Int32))]) (rest := []) (lenOf own_pd574 rfl) rfl (by show 2 * 0 + _ ≤ _; exact Nat.le_of_eq rfl) (hb hby at_569) (fun _ _ => ⟨rfl, e130, (by decide : 10 + 0 ≤ _), (by decide : 49 + 0 ≤ _)⟩)
                                          dsimp only [Pt.U, Pt.locs, Pt.cells, Pt.slots] at X132 l132 y132 z132 st132 hQ132
                                          replace y132 : 10 = k132 := y132.symm
                                          replace z132 : 49 = n132 := z132.symm
                                          subst y132 z132
                                          obtain ⟨rfl, N132q, e132⟩ := hQ132
                                          have N132 : Fr n0 L132 := by rw [l132]; exact Fr.app N130 N132q
                                          refine own_go (fun tg k => st132 tg k) ?_
                                          show own_Fin _ _ _ _ _ _ _ (T132.setTop (mkF m 572 #[.val (.int p0), .val (.int p1), .val (.int p2), .val (.int p3), .val (.int p4), .val (.int (p0 &&& (7 : Int32))), .val (.int z1), .val (.int z2), .val (.int z6), .val (.int z10), .val (.int (p1 &&& (15 : Int32))), .val (.int z11), .val (.int z12), .val (.int z13), .val (.ref b14), .val (.ref b32rb), .val (.int z34), .val (.int z41), .val (.int z49), .val (.int z55), .val (.int z64), .val (.int z74), .val (.int z85), .val (.ref b86), .val (.int z121)] [(.int (own_f13 z121 (4 : Int32) f30 gR32 (6 : Int32) f122))]))
                                          by_cases hc133 : (own_f13 z121 (4 : Int32) f30 gR32 (6 : Int32) f122) = (0 : Int32)
                                          · refine own_go (fun _ k => XS.ifYes X132.here hx rfl (pc0 := 572) (pc' := 592) rfl (hb hby at_572) rfl ((if0 _ _).trans (teq hc133).1) (by decide) (by decide) k) ?_
                                            show own_Fin _ _ _ _ _ _ _ (T132.setTop (mkF m 592 #[.val (.int p0), .val (.int p1), .val (.int p2), .val (.int p3), .val (.int p4), .val (.int (p0 &&& (7 : Int32))), .val (.int z1), .val (.int z2), .val (.int z6), .val (.int z10), .val (.int (p1 &&& (15 : Int32))), .val (.int z11), .val (.int z12), .val (.int z13), .val (.ref b14), .val (.ref b32rb), .val (.int z34), .val (.int z41), .val (.int z49), .val (.int z55), .val (.int z64), .val (.int z74), .val (.int z85), .val (.ref b86), .val (.int z121)] []))
                                            refine own_go (fun _ k => XS.iconst X132.here hx rfl (hb hby at_592) k) ?_
                                            show own_Fin _ _ _ _ _ _ _ (T132.setTop (mkF m 593 #[.val (.int p0), .val (.int p1), .val (.int p2), .val (.int p3), .val (.int p4), .val (.int (p0 &&& (7 : Int32))), .val (.int z1), .val (.int z2), .val (.int z6), .val (.int z10), .val (.int (p1 &&& (15 : Int32))), .val (.int z11), .val (.int z12), .val (.int z13), .val (.ref b14), .val (.ref b32rb), .val (.int z34), .val (.int z41), .val (.int z49), .val (.int z55), .val (.int z64), .val (.int z74), .val (.int z85), .val (.ref b86), .val (.int z121)] [(.int (0 : Int32))]))
                                            refine own_ret X132 hx hlk Bd.returns rfl (Or.inl ⟨rfl, by simp, _, rfl⟩) (hb hby at_593) (Nat.le_of_ble_eq_true rfl) (Nat.le_of_ble_eq_true rfl) ?_
                                            exact ⟨(own_lf_own_f0_5 (p0 := p0) (p1 := p1) (p2 := p2) (p3 := p3) (p4 := p4) (gB23 := gB23) (gR32 := gR32) hz1 hz2 hz6 hz10 hz11 hz12 hz13 hf16 hf17 hf18 hf30 hz34 hz41 hz49 hz55 hz64 hz74 hz85 hz91 hf92 hz97 hf98 hz103 hf104 hz109 hf110 hz115 hf116 hz121 hf122 hc123 hc125 hc127 hc129 hc131 hc133).trans (congrArg (fun z => some (Value.int z)) (own_plain p0 p1 p2 p3 p4 gB23 gR32 (own_hy1 (p0 := p0) (p1 := p1) (p2 := p2) (p3 := p3) (p4 := p4) (gB23 := gB23) (gR32 := gR32) hz1 hz2 hf16 hf17 hf18 Pq23_23) (own_hy2 (p0 := p0) (p1 := p1) (p2 := p2) (p3 := p3) (p4 := p4) (gB23 := gB23) (gR32 := gR32) hz1 hz2 hz6 hz10 hz11 hz12 hz13 hf16 hf17 hf18 hf20 hf21 hf22 hf30 hf31 Pq32_1))), N132, trivial⟩
                                          · refine own_go (fun _ k => XS.ifNo X132.here hx rfl (hb hby at_572) rfl ((if0 _ _).trans (feq hc133).1) k) ?_
                                            show own_Fin _ _ _ _ _ _ _ (T132.setTop (mkF m 575 #[.val (.int p0), .val (.int p1), .val (.int p2), .val (.int p3), .val (.int p4), .val (.int (p0 &&& (7 : Int32))), .val (.int z1), .val (.int z2), .val (.int z6), .val (.int z10), .val (.int (p1 &&& (15 : Int32))), .val (.int z11), .val (.int z12), .val (.int z13), .val (.ref b14), .val (.ref b32rb), .val (.int z34), .val (.int z41), .val (.int z49), .val (.int z55), .val (.int z64), .val (.int z74), .val (.int z85), .val (.ref b86), .val (.int z121)] []))
                                            refine own_go (fun _ k => XS.aload X132.here hx rfl (hb hby at_575) rfl rfl k) ?_
                                            refine own_go (fun _ k => XS.aload X132.here hx rfl (hb hby at_577) rfl rfl k) ?_
                                            refine own_go (fun _ k => XS.iload X132.here hx rfl (hb hby at_579) rfl k) ?_
                                            refine own_go (fun _ k => XS.iconst X132.here hx rfl (hb hby at_581) k) ?_
                                            obtain ⟨_, _, ⟨T134, L134, k134, n134⟩, -, X134, ⟨Lc134, hQ134, l134, y134, z134⟩, st134⟩ := Jvm.LawKit.callS X132 hx (y := (⟨"com/example/reachability/reachability/CandidateListFoundElementsPinLaw", "at", "([I[III)Z"⟩ : MethodName)) hown (mvT hZ (hw _ (List.mem_of_getElem? (i := 79) rfl))) (mvT hZ (hw _ (List.mem_of_getElem? (i := 80) rfl))) (mvT hZ (hw _ (List.mem_of_getElem? (i := 77) rfl))) (mvT hZ (hw _ (List.mem_of_getElem? (i := 81) rfl))) (by decide) (backOf (W := 0) (rm13 l Z a0 hw [] b32rb b86 z121 (5 : Int32) f30 gR32 (6 : Int32) f122 h120j n0 Z120j A_b32rb_120j A_b86_120j ⟨hc123.symm, rfl, by decide, by decide⟩) hZ (hw _ (List.mem_of_getElem? (i := 81) rfl)) (hw _ (List.mem_of_getElem? (i := 77) rfl)) (by decide) (by decide)) (g := (mkF m 582 #[.val (.int p0), .val (.int p1), .val (.int p2), .val (.int p3), .val (.int p4), .val (.int (p0 &&& (7 : Int32))), .val (.int z1), .val (.int z2), .val (.int z6), .val (.int z10), .val (.int (p1 &&& (15 : Int32))), .val (.int z11), .val (.int z12), .val (.int z13), .val (.ref b14), .val (.ref b32rb), .val (.int z34), .val (.int z41), .val (.int z49), .val (.int z55), .val (.int z64), .val (.int z74), .val (.int z85), .val (.ref b86), .val (.int z121)] [(.int (5 : Int32)), (.int z121), (.ref b86), (.ref b32rb)])) rfl (by rw [hml]; rfl) (argsL := [(.ref b32rb), (.ref b86), (.int z121), (.int (5 : Int32))]) (rest := []) (lenOf own_pd574 rfl) rfl (by show 2 * 0 + _ ≤ _; exact Nat.le_of_eq rfl) (hb hby at_582) (fun _ _ => ⟨rfl, e132, (by decide : 10 + 0 ≤ _), (by decide : 49 + 0 ≤ _)⟩)
                                            dsimp only [Pt.U, Pt.locs, Pt.cells, Pt.slots] at X134 l134 y134 z134 st134 hQ134
                                            replace y134 : 10 = k134 := y134.symm
                                            replace z134 : 49 = n134 := z134.symm
                                            subst y134 z134
                                            obtain ⟨rfl, N134q, e134⟩ := hQ134
                                            have N134 : Fr n0 L134 := by rw [l134]; exact Fr.app N132 N134q
                                            refine own_go (fun tg k => st134 tg k) ?_
                                            show own_Fin _ _ _ _ _ _ _ (T134.setTop (mkF m 585 #[.val (.int p0), .val (.int p1), .val (.int p2), .val (.int p3), .val (.int p4), .val (.int (p0 &&& (7 : Int32))), .val (.int z1), .val (.int z2), .val (.int z6), .val (.int z10), .val (.int (p1 &&& (15 : Int32))), .val (.int z11), .val (.int z12), .val (.int z13), .val (.ref b14), .val (.ref b32rb), .val (.int z34), .val (.int z41), .val (.int z49), .val (.int z55), .val (.int z64), .val (.int z74), .val (.int z85), .val (.ref b86), .val (.int z121)] [(.int (own_f13 z121 (5 : Int32) f30 gR32 (6 : Int32) f122))]))
                                            by_cases hc135 : (own_f13 z121 (5 : Int32) f30 gR32 (6 : Int32) f122) = (0 : Int32)
                                            · refine own_go (fun _ k => XS.ifYes X134.here hx rfl (pc0 := 585) (pc' := 592) rfl (hb hby at_585) rfl ((if0 _ _).trans (teq hc135).1) (by decide) (by decide) k) ?_
                                              show own_Fin _ _ _ _ _ _ _ (T134.setTop (mkF m 592 #[.val (.int p0), .val (.int p1), .val (.int p2), .val (.int p3), .val (.int p4), .val (.int (p0 &&& (7 : Int32))), .val (.int z1), .val (.int z2), .val (.int z6), .val (.int z10), .val (.int (p1 &&& (15 : Int32))), .val (.int z11), .val (.int z12), .val (.int z13), .val (.ref b14), .val (.ref b32rb), .val (.int z34), .val (.int z41), .val (.int z49), .val (.int z55), .val (.int z64), .val (.int z74), .val (.int z85), .val (.ref b86), .val (.int z121)] []))
                                              refine own_go (fun _ k => XS.iconst X134.here hx rfl (hb hby at_592) k) ?_
                                              show own_Fin _ _ _ _ _ _ _ (T134.setTop (mkF m 593 #[.val (.int p0), .val (.int p1), .val (.int p2), .val (.int p3), .val (.int p4), .val (.int (p0 &&& (7 : Int32))), .val (.int z1), .val (.int z2), .val (.int z6), .val (.int z10), .val (.int (p1 &&& (15 : Int32))), .val (.int z11), .val (.int z12), .val (.int z13), .val (.ref b14), .val (.ref b32rb), .val (.int z34), .val (.int z41), .val (.int z49), .val (.int z55), .val (.int z64), .val (.int z74), .val (.int z85), .val (.ref b86), .val (.int z121)] [(.int (0 : Int32))]))
                                              refine own_ret X134 hx hlk Bd.returns rfl (Or.inl ⟨rfl, by simp, _, rfl⟩) (hb hby at_593) (Nat.le_of_ble_eq_true rfl) (Nat.le_of_ble_eq_true rfl) ?_
                                              exact ⟨(own_lf_own_f0_6 (p0 := p0) (p1 := p1) (p2 := p2) (p3 := p3) (p4 := p4) (gB23 := gB23) (gR32 := gR32) hz1 hz2 hz6 hz10 hz11 hz12 hz13 hf16 hf17 hf18 hf30 hz34 hz41 hz49 hz55 hz64 hz74 hz85 hz91 hf92 hz97 hf98 hz103 hf104 hz109 hf110 hz115 hf116 hz121 hf122 hc123 hc125 hc127 hc129 hc131 hc133 hc135).trans (congrArg (fun z => some (Value.int z)) (own_plain p0 p1 p2 p3 p4 gB23 gR32 (own_hy1 (p0 := p0) (p1 := p1) (p2 := p2) (p3 := p3) (p4 := p4) (gB23 := gB23) (gR32 := gR32) hz1 hz2 hf16 hf17 hf18 Pq23_23) (own_hy2 (p0 := p0) (p1 := p1) (p2 := p2) (p3 := p3) (p4 := p4) (gB23 := gB23) (gR32 := gR32) hz1 hz2 hz6 hz10 hz11 hz12 hz13 hf16 hf17 hf18 hf20 hf21 hf22 hf30 hf31 Pq32_1))), N134, trivial⟩
                                            · refine own_go (fun _ k => XS.ifNo X134.here hx rfl (hb hby at_585) rfl ((if0 _ _).trans (feq hc135).1) k) ?_
                                              show own_Fin _ _ _ _ _ _ _ (T134.setTop (mkF m 588 #[.val (.int p0), .val (.int p1), .val (.int p2), .val (.int p3), .val (.int p4), .val (.int (p0 &&& (7 : Int32))), .val (.int z1), .val (.int z2), .val (.int z6), .val (.int z10), .val (.int (p1 &&& (15 : Int32))), .val (.int z11), .val (.int z12), .val (.int z13), .val (.ref b14), .val (.ref b32rb), .val (.int z34), .val (.int z41), .val (.int z49), .val (.int z55), .val (.int z64), .val (.int z74), .val (.int z85), .val (.ref b86), .val (.int z121)] []))
                                              refine own_go (fun _ k => XS.iconst X134.here hx rfl (hb hby at_588) k) ?_
                                              show own_Fin _ _ _ _ _ _ _ (T134.setTop (mkF m 589 #[.val (.int p0), .val (.int p1), .val (.int p2), .val (.int p3), .val (.int p4), .val (.int (p0 &&& (7 : Int32))), .val (.int z1), .val (.int z2), .val (.int z6), .val (.int z10), .val (.int (p1 &&& (15 : Int32))), .val (.int z11), .val (.int z12), .val (.int z13), .val (.ref b14), .val (.ref b32rb), .val (.int z34), .val (.int z41), .val (.int z49), .val (.int z55), .val (.int z64), .val (.int z74), .val (.int z85), .val (.ref b86), .val (.int z121)] [(.int (1 : Int32))]))
                                              refine own_go (fun _ k => XS.goto X134.here hx rfl (pc0 := 589) (pc' := 593) rfl (hb hby at_589) (by decide) (by decide) k) ?_
                                              show own_Fin _ _ _ _ _ _ _ (T134.setTop (mkF m 593 #[.val (.int p0), .val (.int p1), .val (.int p2), .val (.int p3), .val (.int p4), .val (.int (p0 &&& (7 : Int32))), .val (.int z1), .val (.int z2), .val (.int z6), .val (.int z10), .val (.int (p1 &&& (15 : Int32))), .val (.int z11), .val (.int z12), .val (.int z13), .val (.ref b14), .val (.ref b32rb), .val (.int z34), .val (.int z41), .val (.int z49), .val (.int z55), .val (.int z64), .val (.int z74), .val (.int z85), .val (.ref b86), .val (.int z121)] [(.int (1 : Int32))]))
                                              refine own_ret X134 hx hlk Bd.returns rfl (Or.inl ⟨rfl, by simp, _, rfl⟩) (hb hby at_593) (Nat.le_of_ble_eq_true rfl) (Nat.le_of_ble_eq_true rfl) ?_
                                              exact ⟨(own_lf_own_f0_7 (p0 := p0) (p1 := p1) (p2 := p2) (p3 := p3) (p4 := p4) (gB23 := gB23) (gR32 := gR32) hz1 hz2 hz6 hz10 hz11 hz12 hz13 hf16 hf17 hf18 hf30 hz34 hz41 hz49 hz55 hz64 hz74 hz85 hz91 hf92 hz97 hf98 hz103 hf104 hz109 hf110 hz115 hf116 hz121 hf122 hc123 hc125 hc127 hc129 hc131 hc133 hc135).trans (congrArg (fun z => some (Value.int z)) (own_plain p0 p1 p2 p3 p4 gB23 gR32 (own_hy1 (p0 := p0) (p1 := p1) (p2 := p2) (p3 := p3) (p4 := p4) (gB23 := gB23) (gR32 := gR32) hz1 hz2 hf16 hf17 hf18 Pq23_23) (own_hy2 (p0 := p0) (p1 := p1) (p2 := p2) (p3 := p3) (p4 := p4) (gB23 := gB23) (gR32 := gR32) hz1 hz2 hz6 hz10 hz11 hz12 hz13 hf16 hf17 hf18 hf20 hf21 hf22 hf30 hf31 Pq32_1))), N134, trivial⟩
                                · refine own_go (fun _ k => XS.icmpNo X120.here hx rfl (hb hby at_505) rfl (feq hc123).1 k) ?_
                                  show own_Fin _ _ _ _ _ _ _ (T120.setTop (mkF m 508 #[.val (.int p0), .val (.int p1), .val (.int p2), .val (.int p3), .val (.int p4), .val (.int (p0 &&& (7 : Int32))), .val (.int z1), .val (.int z2), .val (.int z6), .val (.int z10), .val (.int (p1 &&& (15 : Int32))), .val (.int z11), .val (.int z12), .val (.int z13), .val (.ref b14), .val (.ref b32rb), .val (.int z34), .val (.int z41), .val (.int z49), .val (.int z55), .val (.int z64), .val (.int z74), .val (.int z85), .val (.ref b86), .val (.int z121)] []))
                                  refine own_go (fun _ k => XS.iconst X120.here hx rfl (hb hby at_508) k) ?_
                                  show own_Fin _ _ _ _ _ _ _ (T120.setTop (mkF m 509 #[.val (.int p0), .val (.int p1), .val (.int p2), .val (.int p3), .val (.int p4), .val (.int (p0 &&& (7 : Int32))), .val (.int z1), .val (.int z2), .val (.int z6), .val (.int z10), .val (.int (p1 &&& (15 : Int32))), .val (.int z11), .val (.int z12), .val (.int z13), .val (.ref b14), .val (.ref b32rb), .val (.int z34), .val (.int z41), .val (.int z49), .val (.int z55), .val (.int z64), .val (.int z74), .val (.int z85), .val (.ref b86), .val (.int z121)] [(.int (0 : Int32))]))
                                  refine own_ret X120 hx hlk Bd.returns rfl (Or.inl ⟨rfl, by simp, _, rfl⟩) (hb hby at_509) (Nat.le_of_ble_eq_true rfl) (Nat.le_of_ble_eq_true rfl) ?_
                                  exact ⟨(own_lf_own_f0_8 (p0 := p0) (p1 := p1) (p2 := p2) (p3 := p3) (p4 := p4) (gB23 := gB23) (gR32 := gR32) hz1 hz2 hz6 hz10 hz11 hz12 hz13 hf16 hf17 hf18 hf30 hz34 hz41 hz49 hz55 hz64 hz74 hz85 hz91 hz97 hz103 hz109 hz115 hz121 hc123).trans (congrArg (fun z => some (Value.int z)) (own_plain p0 p1 p2 p3 p4 gB23 gR32 (own_hy1 (p0 := p0) (p1 := p1) (p2 := p2) (p3 := p3) (p4 := p4) (gB23 := gB23) (gR32 := gR32) hz1 hz2 hf16 hf17 hf18 Pq23_23) (own_hy2 (p0 := p0) (p1 := p1) (p2 := p2) (p3 := p3) (p4 := p4) (gB23 := gB23) (gR32 := gR32) hz1 hz2 hz6 hz10 hz11 hz12 hz13 hf16 hf17 hf18 hf20 hf21 hf22 hf30 hf31 Pq32_1))), N120, trivial⟩
                              by_cases hc117 : z85 = (0 : Int32)
                              · refine own_go (fun _ k => XS.ifYes X114.here hx rfl (pc0 := 482) (pc' := 495) rfl (hb hby at_482) rfl ((if0 _ _).trans (teq hc117).1) (by decide) (by decide) k) ?_
                                show own_Fin _ _ _ _ _ _ _ (T114.setTop (mkF m 495 #[.val (.int p0), .val (.int p1), .val (.int p2), .val (.int p3), .val (.int p4), .val (.int (p0 &&& (7 : Int32))), .val (.int z1), .val (.int z2), .val (.int z6), .val (.int z10), .val (.int (p1 &&& (15 : Int32))), .val (.int z11), .val (.int z12), .val (.int z13), .val (.ref b14), .val (.ref b32rb), .val (.int z34), .val (.int z41), .val (.int z49), .val (.int z55), .val (.int z64), .val (.int z74), .val (.int z85), .val (.ref b86), .val (.int z115)] []))
                                have kj := hk118 T114 _ h114j (own_mono X114 (by decide) (by decide)) N114 e114 Z114j A_b32rb_114j (by simp only [if_pos hc117]; exact A_b86_114j)
                                simpa only [if_pos hc117] using kj
                              · refine own_go (fun _ k => XS.ifNo X114.here hx rfl (hb hby at_482) rfl ((if0 _ _).trans (feq hc117).1) k) ?_
                                show own_Fin _ _ _ _ _ _ _ (T114.setTop (mkF m 485 #[.val (.int p0), .val (.int p1), .val (.int p2), .val (.int p3), .val (.int p4), .val (.int (p0 &&& (7 : Int32))), .val (.int z1), .val (.int z2), .val (.int z6), .val (.int z10), .val (.int (p1 &&& (15 : Int32))), .val (.int z11), .val (.int z12), .val (.int z13), .val (.ref b14), .val (.ref b32rb), .val (.int z34), .val (.int z41), .val (.int z49), .val (.int z55), .val (.int z64), .val (.int z74), .val (.int z85), .val (.ref b86), .val (.int z115)] []))
                                refine own_go (fun _ k => XS.aload X114.here hx rfl (hb hby at_485) rfl rfl k) ?_
                                refine own_go (fun _ k => XS.iload X114.here hx rfl (hb hby at_487) rfl k) ?_
                                refine own_go (fun _ k => XS.iload X114.here hx rfl (hb hby at_489) rfl k) ?_
                                obtain ⟨T119, h119, X119, e119, W119, A_b86_119, st119⟩ := own_stI X114 hx hZ e114 A_b86_114j (j := z115) (own_kb6 (own_kz hz115 (own_kz hz109 (own_kz hz103 (own_kz hz97 (own_kz0 hz91) (by decide)) (by decide)) (by decide)) (by decide)) (by decide)) (g := (mkF m 491 #[.val (.int p0), .val (.int p1), .val (.int p2), .val (.int p3), .val (.int p4), .val (.int (p0 &&& (7 : Int32))), .val (.int z1), .val (.int z2), .val (.int z6), .val (.int z10), .val (.int (p1 &&& (15 : Int32))), .val (.int z11), .val (.int z12), .val (.int z13), .val (.ref b14), .val (.ref b32rb), .val (.int z34), .val (.int z41), .val (.int z49), .val (.int z55), .val (.int z64), .val (.int z74), .val (.int z85), .val (.ref b86), .val (.int z115)] [(.int p4), (.int z115), (.ref b86)])) rfl rfl (hb hby at_491)
                                have A_b32rb_119 := A_b32rb_114j.other W119 ne_b32rb_b86
                                have N119 := Fr.snoc X119 N114 ge_b86
                                have Z119 : n0 ≤ h119.size := Nat.le_trans Z114j (Keep.of_wr W119).1
                                obtain ⟨f119, hf119⟩ : ∃ z, z = (own_set f116 z115 p4) := ⟨_, rfl⟩
                                rw [← hf119] at A_b86_119
                                refine own_go (fun tg k => st119 tg k) ?_
                                show own_Fin _ _ _ _ _ _ _ (T119.setTop (mkF m 492 #[.val (.int p0), .val (.int p1), .val (.int p2), .val (.int p3), .val (.int p4), .val (.int (p0 &&& (7 : Int32))), .val (.int z1), .val (.int z2), .val (.int z6), .val (.int z10), .val (.int (p1 &&& (15 : Int32))), .val (.int z11), .val (.int z12), .val (.int z13), .val (.ref b14), .val (.ref b32rb), .val (.int z34), .val (.int z41), .val (.int z49), .val (.int z55), .val (.int z64), .val (.int z74), .val (.int z85), .val (.ref b86), .val (.int z115)] []))
                                refine own_go (fun _ k => XS.iinc X119.here hx rfl (hb hby at_492) rfl (l' := #[.val (.int p0), .val (.int p1), .val (.int p2), .val (.int p3), .val (.int p4), .val (.int (p0 &&& (7 : Int32))), .val (.int z1), .val (.int z2), .val (.int z6), .val (.int z10), .val (.int (p1 &&& (15 : Int32))), .val (.int z11), .val (.int z12), .val (.int z13), .val (.ref b14), .val (.ref b32rb), .val (.int z34), .val (.int z41), .val (.int z49), .val (.int z55), .val (.int z64), .val (.int z74), .val (.int z85), .val (.ref b86), .val (.int (z115 + (1 : Int32)))]) rfl k) ?_
                                show own_Fin _ _ _ _ _ _ _ (T119.setTop (mkF m 495 #[.val (.int p0), .val (.int p1), .val (.int p2), .val (.int p3), .val (.int p4), .val (.int (p0 &&& (7 : Int32))), .val (.int z1), .val (.int z2), .val (.int z6), .val (.int z10), .val (.int (p1 &&& (15 : Int32))), .val (.int z11), .val (.int z12), .val (.int z13), .val (.ref b14), .val (.ref b32rb), .val (.int z34), .val (.int z41), .val (.int z49), .val (.int z55), .val (.int z64), .val (.int z74), .val (.int z85), .val (.ref b86), .val (.int (z115 + (1 : Int32)))] []))
                                have kj := hk118 T119 _ h119 (own_mono X119 (by decide) (by decide)) N119 e119 Z119 A_b32rb_119 (by subst hf119; simp only [if_neg hc117]; exact A_b86_119)
                                try subst hf119
                                simpa only [if_neg hc117] using kj
                            by_cases hc111 : z74 = (0 : Int32)
                            · refine own_go (fun _ k => XS.ifYes X108.here hx rfl (pc0 := 468) (pc' := 480) rfl (hb hby at_468) rfl ((if0 _ _).trans (teq hc111).1) (by decide) (by decide) k) ?_
                              show own_Fin _ _ _ _ _ _ _ (T108.setTop (mkF m 480 #[.val (.int p0), .val (.int p1), .val (.int p2), .val (.int p3), .val (.int p4), .val (.int (p0 &&& (7 : Int32))), .val (.int z1), .val (.int z2), .val (.int z6), .val (.int z10), .val (.int (p1 &&& (15 : Int32))), .val (.int z11), .val (.int z12), .val (.int z13), .val (.ref b14), .val (.ref b32rb), .val (.int z34), .val (.int z41), .val (.int z49), .val (.int z55), .val (.int z64), .val (.int z74), .val (.int z85), .val (.ref b86), .val (.int z109)] []))
                              have kj := hk112 T108 _ h108j (own_mono X108 (by decide) (by decide)) N108 e108 Z108j A_b32rb_108j (by simp only [if_pos hc111]; exact A_b86_108j)
                              simpa only [if_pos hc111] using kj
                            · refine own_go (fun _ k => XS.ifNo X108.here hx rfl (hb hby at_468) rfl ((if0 _ _).trans (feq hc111).1) k) ?_
                              show own_Fin _ _ _ _ _ _ _ (T108.setTop (mkF m 471 #[.val (.int p0), .val (.int p1), .val (.int p2), .val (.int p3), .val (.int p4), .val (.int (p0 &&& (7 : Int32))), .val (.int z1), .val (.int z2), .val (.int z6), .val (.int z10), .val (.int (p1 &&& (15 : Int32))), .val (.int z11), .val (.int z12), .val (.int z13), .val (.ref b14), .val (.ref b32rb), .val (.int z34), .val (.int z41), .val (.int z49), .val (.int z55), .val (.int z64), .val (.int z74), .val (.int z85), .val (.ref b86), .val (.int z109)] []))
                              refine own_go (fun _ k => XS.aload X108.here hx rfl (hb hby at_471) rfl rfl k) ?_
                              refine own_go (fun _ k => XS.iload X108.here hx rfl (hb hby at_473) rfl k) ?_
                              refine own_go (fun _ k => XS.iloadN X108.here hx rfl (hb hby at_475) rfl k) ?_
                              obtain ⟨T113, h113, X113, e113, W113, A_b86_113, st113⟩ := own_stI X108 hx hZ e108 A_b86_108j (j := z109) (own_kb6 (own_kz hz109 (own_kz hz103 (own_kz hz97 (own_kz0 hz91) (by decide)) (by decide)) (by decide)) (by decide)) (g := (mkF m 476 #[.val (.int p0), .val (.int p1), .val (.int p2), .val (.int p3), .val (.int p4), .val (.int (p0 &&& (7 : Int32))), .val (.int z1), .val (.int z2), .val (.int z6), .val (.int z10), .val (.int (p1 &&& (15 : Int32))), .val (.int z11), .val (.int z12), .val (.int z13), .val (.ref b14), .val (.ref b32rb), .val (.int z34), .val (.int z41), .val (.int z49), .val (.int z55), .val (.int z64), .val (.int z74), .val (.int z85), .val (.ref b86), .val (.int z109)] [(.int p3), (.int z109), (.ref b86)])) rfl rfl (hb hby at_476)
                              have A_b32rb_113 := A_b32rb_108j.other W113 ne_b32rb_b86
                              have N113 := Fr.snoc X113 N108 ge_b86
                              have Z113 : n0 ≤ h113.size := Nat.le_trans Z108j (Keep.of_wr W113).1
                              obtain ⟨f113, hf113⟩ : ∃ z, z = (own_set f110 z109 p3) := ⟨_, rfl⟩
                              rw [← hf113] at A_b86_113
                              refine own_go (fun tg k => st113 tg k) ?_
                              show own_Fin _ _ _ _ _ _ _ (T113.setTop (mkF m 477 #[.val (.int p0), .val (.int p1), .val (.int p2), .val (.int p3), .val (.int p4), .val (.int (p0 &&& (7 : Int32))), .val (.int z1), .val (.int z2), .val (.int z6), .val (.int z10), .val (.int (p1 &&& (15 : Int32))), .val (.int z11), .val (.int z12), .val (.int z13), .val (.ref b14), .val (.ref b32rb), .val (.int z34), .val (.int z41), .val (.int z49), .val (.int z55), .val (.int z64), .val (.int z74), .val (.int z85), .val (.ref b86), .val (.int z109)] []))
                              refine own_go (fun _ k => XS.iinc X113.here hx rfl (hb hby at_477) rfl (l' := #[.val (.int p0), .val (.int p1), .val (.int p2), .val (.int p3), .val (.int p4), .val (.int (p0 &&& (7 : Int32))), .val (.int z1), .val (.int z2), .val (.int z6), .val (.int z10), .val (.int (p1 &&& (15 : Int32))), .val (.int z11), .val (.int z12), .val (.int z13), .val (.ref b14), .val (.ref b32rb), .val (.int z34), .val (.int z41), .val (.int z49), .val (.int z55), .val (.int z64), .val (.int z74), .val (.int z85), .val (.ref b86), .val (.int (z109 + (1 : Int32)))]) rfl k) ?_
                              show own_Fin _ _ _ _ _ _ _ (T113.setTop (mkF m 480 #[.val (.int p0), .val (.int p1), .val (.int p2), .val (.int p3), .val (.int p4), .val (.int (p0 &&& (7 : Int32))), .val (.int z1), .val (.int z2), .val (.int z6), .val (.int z10), .val (.int (p1 &&& (15 : Int32))), .val (.int z11), .val (.int z12), .val (.int z13), .val (.ref b14), .val (.ref b32rb), .val (.int z34), .val (.int z41), .val (.int z49), .val (.int z55), .val (.int z64), .val (.int z74), .val (.int z85), .val (.ref b86), .val (.int (z109 + (1 : Int32)))] []))
                              have kj := hk112 T113 _ h113 (own_mono X113 (by decide) (by decide)) N113 e113 Z113 A_b32rb_113 (by subst hf113; simp only [if_neg hc111]; exact A_b86_113)
                              try subst hf113
                              simpa only [if_neg hc111] using kj
                          by_cases hc105 : z64 = (0 : Int32)
                          · refine own_go (fun _ k => XS.ifYes X102.here hx rfl (pc0 := 454) (pc' := 466) rfl (hb hby at_454) rfl ((if0 _ _).trans (teq hc105).1) (by decide) (by decide) k) ?_
                            show own_Fin _ _ _ _ _ _ _ (T102.setTop (mkF m 466 #[.val (.int p0), .val (.int p1), .val (.int p2), .val (.int p3), .val (.int p4), .val (.int (p0 &&& (7 : Int32))), .val (.int z1), .val (.int z2), .val (.int z6), .val (.int z10), .val (.int (p1 &&& (15 : Int32))), .val (.int z11), .val (.int z12), .val (.int z13), .val (.ref b14), .val (.ref b32rb), .val (.int z34), .val (.int z41), .val (.int z49), .val (.int z55), .val (.int z64), .val (.int z74), .val (.int z85), .val (.ref b86), .val (.int z103)] []))
                            have kj := hk106 T102 _ h102j (own_mono X102 (by decide) (by decide)) N102 e102 Z102j A_b32rb_102j (by simp only [if_pos hc105]; exact A_b86_102j)
                            simpa only [if_pos hc105] using kj
                          · refine own_go (fun _ k => XS.ifNo X102.here hx rfl (hb hby at_454) rfl ((if0 _ _).trans (feq hc105).1) k) ?_
                            show own_Fin _ _ _ _ _ _ _ (T102.setTop (mkF m 457 #[.val (.int p0), .val (.int p1), .val (.int p2), .val (.int p3), .val (.int p4), .val (.int (p0 &&& (7 : Int32))), .val (.int z1), .val (.int z2), .val (.int z6), .val (.int z10), .val (.int (p1 &&& (15 : Int32))), .val (.int z11), .val (.int z12), .val (.int z13), .val (.ref b14), .val (.ref b32rb), .val (.int z34), .val (.int z41), .val (.int z49), .val (.int z55), .val (.int z64), .val (.int z74), .val (.int z85), .val (.ref b86), .val (.int z103)] []))
                            refine own_go (fun _ k => XS.aload X102.here hx rfl (hb hby at_457) rfl rfl k) ?_
                            refine own_go (fun _ k => XS.iload X102.here hx rfl (hb hby at_459) rfl k) ?_
                            refine own_go (fun _ k => XS.iloadN X102.here hx rfl (hb hby at_461) rfl k) ?_
                            obtain ⟨T107, h107, X107, e107, W107, A_b86_107, st107⟩ := own_stI X102 hx hZ e102 A_b86_102j (j := z103) (own_kb6 (own_kz hz103 (own_kz hz97 (own_kz0 hz91) (by decide)) (by decide)) (by decide)) (g := (mkF m 462 #[.val (.int p0), .val (.int p1), .val (.int p2), .val (.int p3), .val (.int p4), .val (.int (p0 &&& (7 : Int32))), .val (.int z1), .val (.int z2), .val (.int z6), .val (.int z10), .val (.int (p1 &&& (15 : Int32))), .val (.int z11), .val (.int z12), .val (.int z13), .val (.ref b14), .val (.ref b32rb), .val (.int z34), .val (.int z41), .val (.int z49), .val (.int z55), .val (.int z64), .val (.int z74), .val (.int z85), .val (.ref b86), .val (.int z103)] [(.int p2), (.int z103), (.ref b86)])) rfl rfl (hb hby at_462)
                            have A_b32rb_107 := A_b32rb_102j.other W107 ne_b32rb_b86
                            have N107 := Fr.snoc X107 N102 ge_b86
                            have Z107 : n0 ≤ h107.size := Nat.le_trans Z102j (Keep.of_wr W107).1
                            obtain ⟨f107, hf107⟩ : ∃ z, z = (own_set f104 z103 p2) := ⟨_, rfl⟩
                            rw [← hf107] at A_b86_107
                            refine own_go (fun tg k => st107 tg k) ?_
                            show own_Fin _ _ _ _ _ _ _ (T107.setTop (mkF m 463 #[.val (.int p0), .val (.int p1), .val (.int p2), .val (.int p3), .val (.int p4), .val (.int (p0 &&& (7 : Int32))), .val (.int z1), .val (.int z2), .val (.int z6), .val (.int z10), .val (.int (p1 &&& (15 : Int32))), .val (.int z11), .val (.int z12), .val (.int z13), .val (.ref b14), .val (.ref b32rb), .val (.int z34), .val (.int z41), .val (.int z49), .val (.int z55), .val (.int z64), .val (.int z74), .val (.int z85), .val (.ref b86), .val (.int z103)] []))
                            refine own_go (fun _ k => XS.iinc X107.here hx rfl (hb hby at_463) rfl (l' := #[.val (.int p0), .val (.int p1), .val (.int p2), .val (.int p3), .val (.int p4), .val (.int (p0 &&& (7 : Int32))), .val (.int z1), .val (.int z2), .val (.int z6), .val (.int z10), .val (.int (p1 &&& (15 : Int32))), .val (.int z11), .val (.int z12), .val (.int z13), .val (.ref b14), .val (.ref b32rb), .val (.int z34), .val (.int z41), .val (.int z49), .val (.int z55), .val (.int z64), .val (.int z74), .val (.int z85), .val (.ref b86), .val (.int (z103 + (1 : Int32)))]) rfl k) ?_
                            show own_Fin _ _ _ _ _ _ _ (T107.setTop (mkF m 466 #[.val (.int p0), .val (.int p1), .val (.int p2), .val (.int p3), .val (.int p4), .val (.int (p0 &&& (7 : Int32))), .val (.int z1), .val (.int z2), .val (.int z6), .val (.int z10), .val (.int (p1 &&& (15 : Int32))), .val (.int z11), .val (.int z12), .val (.int z13), .val (.ref b14), .val (.ref b32rb), .val (.int z34), .val (.int z41), .val (.int z49), .val (.int z55), .val (.int z64), .val (.int z74), .val (.int z85), .val (.ref b86), .val (.int (z103 + (1 : Int32)))] []))
                            have kj := hk106 T107 _ h107 (own_mono X107 (by decide) (by decide)) N107 e107 Z107 A_b32rb_107 (by subst hf107; simp only [if_neg hc105]; exact A_b86_107)
                            try subst hf107
                            simpa only [if_neg hc105] using kj
                        by_cases hc99 : z49 = (0 : Int32)
                        · refine own_go (fun _ k => XS.ifYes X96.here hx rfl (pc0 := 439) (pc' := 452) rfl (hb hby at_439) rfl ((if0 _ _).trans (teq hc99).1) (by decide) (by decide) k) ?_
                          show own_Fin _ _ _ _ _ _ _ (T96.setTop (mkF m 452 #[.val (.int p0), .val (.int p1), .val (.int p2), .val (.int p3), .val (.int p4), .val (.int (p0 &&& (7 : Int32))), .val (.int z1), .val (.int z2), .val (.int z6), .val (.int z10), .val (.int (p1 &&& (15 : Int32))), .val (.int z11), .val (.int z12), .val (.int z13), .val (.ref b14), .val (.ref b32rb), .val (.int z34), .val (.int z41), .val (.int z49), .val (.int z55), .val (.int z64), .val (.int z74), .val (.int z85), .val (.ref b86), .val (.int z97)] []))
                          have kj := hk100 T96 _ h96j (own_mono X96 (by decide) (by decide)) N96 e96 Z96j A_b32rb_96j (by simp only [if_pos hc99]; exact A_b86_96j)
                          simpa only [if_pos hc99] using kj
                        · refine own_go (fun _ k => XS.ifNo X96.here hx rfl (hb hby at_439) rfl ((if0 _ _).trans (feq hc99).1) k) ?_
                          show own_Fin _ _ _ _ _ _ _ (T96.setTop (mkF m 442 #[.val (.int p0), .val (.int p1), .val (.int p2), .val (.int p3), .val (.int p4), .val (.int (p0 &&& (7 : Int32))), .val (.int z1), .val (.int z2), .val (.int z6), .val (.int z10), .val (.int (p1 &&& (15 : Int32))), .val (.int z11), .val (.int z12), .val (.int z13), .val (.ref b14), .val (.ref b32rb), .val (.int z34), .val (.int z41), .val (.int z49), .val (.int z55), .val (.int z64), .val (.int z74), .val (.int z85), .val (.ref b86), .val (.int z97)] []))
                          refine own_go (fun _ k => XS.aload X96.here hx rfl (hb hby at_442) rfl rfl k) ?_
                          refine own_go (fun _ k => XS.iload X96.here hx rfl (hb hby at_444) rfl k) ?_
                          refine own_go (fun _ k => XS.iload X96.here hx rfl (hb hby at_446) rfl k) ?_
                          obtain ⟨T101, h101, X101, e101, W101, A_b86_101, st101⟩ := own_stI X96 hx hZ e96 A_b86_96j (j := z97) (own_kb6 (own_kz hz97 (own_kz0 hz91) (by decide)) (by decide)) (g := (mkF m 448 #[.val (.int p0), .val (.int p1), .val (.int p2), .val (.int p3), .val (.int p4), .val (.int (p0 &&& (7 : Int32))), .val (.int z1), .val (.int z2), .val (.int z6), .val (.int z10), .val (.int (p1 &&& (15 : Int32))), .val (.int z11), .val (.int z12), .val (.int z13), .val (.ref b14), .val (.ref b32rb), .val (.int z34), .val (.int z41), .val (.int z49), .val (.int z55), .val (.int z64), .val (.int z74), .val (.int z85), .val (.ref b86), .val (.int z97)] [(.int p4), (.int z97), (.ref b86)])) rfl rfl (hb hby at_448)
                          have A_b32rb_101 := A_b32rb_96j.other W101 ne_b32rb_b86
                          have N101 := Fr.snoc X101 N96 ge_b86
                          have Z101 : n0 ≤ h101.size := Nat.le_trans Z96j (Keep.of_wr W101).1
                          obtain ⟨f101, hf101⟩ : ∃ z, z = (own_set f98 z97 p4) := ⟨_, rfl⟩
                          rw [← hf101] at A_b86_101
                          refine own_go (fun tg k => st101 tg k) ?_
                          show own_Fin _ _ _ _ _ _ _ (T101.setTop (mkF m 449 #[.val (.int p0), .val (.int p1), .val (.int p2), .val (.int p3), .val (.int p4), .val (.int (p0 &&& (7 : Int32))), .val (.int z1), .val (.int z2), .val (.int z6), .val (.int z10), .val (.int (p1 &&& (15 : Int32))), .val (.int z11), .val (.int z12), .val (.int z13), .val (.ref b14), .val (.ref b32rb), .val (.int z34), .val (.int z41), .val (.int z49), .val (.int z55), .val (.int z64), .val (.int z74), .val (.int z85), .val (.ref b86), .val (.int z97)] []))
                          refine own_go (fun _ k => XS.iinc X101.here hx rfl (hb hby at_449) rfl (l' := #[.val (.int p0), .val (.int p1), .val (.int p2), .val (.int p3), .val (.int p4), .val (.int (p0 &&& (7 : Int32))), .val (.int z1), .val (.int z2), .val (.int z6), .val (.int z10), .val (.int (p1 &&& (15 : Int32))), .val (.int z11), .val (.int z12), .val (.int z13), .val (.ref b14), .val (.ref b32rb), .val (.int z34), .val (.int z41), .val (.int z49), .val (.int z55), .val (.int z64), .val (.int z74), .val (.int z85), .val (.ref b86), .val (.int (z97 + (1 : Int32)))]) rfl k) ?_
                          show own_Fin _ _ _ _ _ _ _ (T101.setTop (mkF m 452 #[.val (.int p0), .val (.int p1), .val (.int p2), .val (.int p3), .val (.int p4), .val (.int (p0 &&& (7 : Int32))), .val (.int z1), .val (.int z2), .val (.int z6), .val (.int z10), .val (.int (p1 &&& (15 : Int32))), .val (.int z11), .val (.int z12), .val (.int z13), .val (.ref b14), .val (.ref b32rb), .val (.int z34), .val (.int z41), .val (.int z49), .val (.int z55), .val (.int z64), .val (.int z74), .val (.int z85), .val (.ref b86), .val (.int (z97 + (1 : Int32)))] []))
                          have kj := hk100 T101 _ h101 (own_mono X101 (by decide) (by decide)) N101 e101 Z101 A_b32rb_101 (by subst hf101; simp only [if_neg hc99]; exact A_b86_101)
                          try subst hf101
                          simpa only [if_neg hc99] using kj
                      by_cases hc93 : z41 = (0 : Int32)
                      · refine own_go (fun _ k => XS.ifYes X90.here hx rfl (pc0 := 425) (pc' := 437) rfl (hb hby at_425) rfl ((if0 _ _).trans (teq hc93).1) (by decide) (by decide) k) ?_
                        show own_Fin _ _ _ _ _ _ _ (T90.setTop (mkF m 437 #[.val (.int p0), .val (.int p1), .val (.int p2), .val (.int p3), .val (.int p4), .val (.int (p0 &&& (7 : Int32))), .val (.int z1), .val (.int z2), .val (.int z6), .val (.int z10), .val (.int (p1 &&& (15 : Int32))), .val (.int z11), .val (.int z12), .val (.int z13), .val (.ref b14), .val (.ref b32rb), .val (.int z34), .val (.int z41), .val (.int z49), .val (.int z55), .val (.int z64), .val (.int z74), .val (.int z85), .val (.ref b86), .val (.int z91)] []))
                        have kj := hk94 T90 _ h90j (own_mono X90 (by decide) (by decide)) N90 e90 Z90j A_b32rb_90j (by simp only [if_pos hc93]; exact A_b86_90j)
                        simpa only [if_pos hc93] using kj
                      · refine own_go (fun _ k => XS.ifNo X90.here hx rfl (hb hby at_425) rfl ((if0 _ _).trans (feq hc93).1) k) ?_
                        show own_Fin _ _ _ _ _ _ _ (T90.setTop (mkF m 428 #[.val (.int p0), .val (.int p1), .val (.int p2), .val (.int p3), .val (.int p4), .val (.int (p0 &&& (7 : Int32))), .val (.int z1), .val (.int z2), .val (.int z6), .val (.int z10), .val (.int (p1 &&& (15 : Int32))), .val (.int z11), .val (.int z12), .val (.int z13), .val (.ref b14), .val (.ref b32rb), .val (.int z34), .val (.int z41), .val (.int z49), .val (.int z55), .val (.int z64), .val (.int z74), .val (.int z85), .val (.ref b86), .val (.int z91)] []))
                        refine own_go (fun _ k => XS.aload X90.here hx rfl (hb hby at_428) rfl rfl k) ?_
                        refine own_go (fun _ k => XS.iload X90.here hx rfl (hb hby at_430) rfl k) ?_
                        refine own_go (fun _ k => XS.iloadN X90.here hx rfl (hb hby at_432) rfl k) ?_
                        obtain ⟨T95, h95, X95, e95, W95, A_b86_95, st95⟩ := own_stI X90 hx hZ e90 A_b86_90j (j := z91) (own_kb6 (own_kz0 hz91) (by decide)) (g := (mkF m 433 #[.val (.int p0), .val (.int p1), .val (.int p2), .val (.int p3), .val (.int p4), .val (.int (p0 &&& (7 : Int32))), .val (.int z1), .val (.int z2), .val (.int z6), .val (.int z10), .val (.int (p1 &&& (15 : Int32))), .val (.int z11), .val (.int z12), .val (.int z13), .val (.ref b14), .val (.ref b32rb), .val (.int z34), .val (.int z41), .val (.int z49), .val (.int z55), .val (.int z64), .val (.int z74), .val (.int z85), .val (.ref b86), .val (.int z91)] [(.int p3), (.int z91), (.ref b86)])) rfl rfl (hb hby at_433)
                        have A_b32rb_95 := A_b32rb_90j.other W95 ne_b32rb_b86
                        have N95 := Fr.snoc X95 N90 ge_b86
                        have Z95 : n0 ≤ h95.size := Nat.le_trans Z90j (Keep.of_wr W95).1
                        obtain ⟨f95, hf95⟩ : ∃ z, z = (own_set f92 z91 p3) := ⟨_, rfl⟩
                        rw [← hf95] at A_b86_95
                        refine own_go (fun tg k => st95 tg k) ?_
                        show own_Fin _ _ _ _ _ _ _ (T95.setTop (mkF m 434 #[.val (.int p0), .val (.int p1), .val (.int p2), .val (.int p3), .val (.int p4), .val (.int (p0 &&& (7 : Int32))), .val (.int z1), .val (.int z2), .val (.int z6), .val (.int z10), .val (.int (p1 &&& (15 : Int32))), .val (.int z11), .val (.int z12), .val (.int z13), .val (.ref b14), .val (.ref b32rb), .val (.int z34), .val (.int z41), .val (.int z49), .val (.int z55), .val (.int z64), .val (.int z74), .val (.int z85), .val (.ref b86), .val (.int z91)] []))
                        refine own_go (fun _ k => XS.iinc X95.here hx rfl (hb hby at_434) rfl (l' := #[.val (.int p0), .val (.int p1), .val (.int p2), .val (.int p3), .val (.int p4), .val (.int (p0 &&& (7 : Int32))), .val (.int z1), .val (.int z2), .val (.int z6), .val (.int z10), .val (.int (p1 &&& (15 : Int32))), .val (.int z11), .val (.int z12), .val (.int z13), .val (.ref b14), .val (.ref b32rb), .val (.int z34), .val (.int z41), .val (.int z49), .val (.int z55), .val (.int z64), .val (.int z74), .val (.int z85), .val (.ref b86), .val (.int (z91 + (1 : Int32)))]) rfl k) ?_
                        show own_Fin _ _ _ _ _ _ _ (T95.setTop (mkF m 437 #[.val (.int p0), .val (.int p1), .val (.int p2), .val (.int p3), .val (.int p4), .val (.int (p0 &&& (7 : Int32))), .val (.int z1), .val (.int z2), .val (.int z6), .val (.int z10), .val (.int (p1 &&& (15 : Int32))), .val (.int z11), .val (.int z12), .val (.int z13), .val (.ref b14), .val (.ref b32rb), .val (.int z34), .val (.int z41), .val (.int z49), .val (.int z55), .val (.int z64), .val (.int z74), .val (.int z85), .val (.ref b86), .val (.int (z91 + (1 : Int32)))] []))
                        have kj := hk94 T95 _ h95 (own_mono X95 (by decide) (by decide)) N95 e95 Z95 A_b32rb_95 (by subst hf95; simp only [if_neg hc93]; exact A_b86_95)
                        try subst hf95
                        simpa only [if_neg hc93] using kj
                    by_cases hc87 : z34 = (0 : Int32)
                    · refine own_go (fun _ k => XS.ifYes X86.here hx rfl (pc0 := 411) (pc' := 423) rfl (hb hby at_411) rfl ((if0 _ _).trans (teq hc87).1) (by decide) (by decide) k) ?_
                      show own_Fin _ _ _ _ _ _ _ (T86.setTop (mkF m 423 #[.val (.int p0), .val (.int p1), .val (.int p2), .val (.int p3), .val (.int p4), .val (.int (p0 &&& (7 : Int32))), .val (.int z1), .val (.int z2), .val (.int z6), .val (.int z10), .val (.int (p1 &&& (15 : Int32))), .val (.int z11), .val (.int z12), .val (.int z13), .val (.ref b14), .val (.ref b32rb), .val (.int z34), .val (.int z41), .val (.int z49), .val (.int z55), .val (.int z64), .val (.int z74), .val (.int z85), .val (.ref b86), .val (.int (0 : Int32))] []))
                      have kj := hk88 T86 _ h86 (own_mono X86 (by decide) (by decide)) N84 e86 Z86 A_b32rb_86 (by simp only [if_pos hc87]; exact A_b86_86)
                      simpa only [if_pos hc87] using kj
                    · refine own_go (fun _ k => XS.ifNo X86.here hx rfl (hb hby at_411) rfl ((if0 _ _).trans (feq hc87).1) k) ?_
                      show own_Fin _ _ _ _ _ _ _ (T86.setTop (mkF m 414 #[.val (.int p0), .val (.int p1), .val (.int p2), .val (.int p3), .val (.int p4), .val (.int (p0 &&& (7 : Int32))), .val (.int z1), .val (.int z2), .val (.int z6), .val (.int z10), .val (.int (p1 &&& (15 : Int32))), .val (.int z11), .val (.int z12), .val (.int z13), .val (.ref b14), .val (.ref b32rb), .val (.int z34), .val (.int z41), .val (.int z49), .val (.int z55), .val (.int z64), .val (.int z74), .val (.int z85), .val (.ref b86), .val (.int (0 : Int32))] []))
                      refine own_go (fun _ k => XS.aload X86.here hx rfl (hb hby at_414) rfl rfl k) ?_
                      refine own_go (fun _ k => XS.iload X86.here hx rfl (hb hby at_416) rfl k) ?_
                      refine own_go (fun _ k => XS.iloadN X86.here hx rfl (hb hby at_418) rfl k) ?_
                      obtain ⟨T89, h89, X89, e89, W89, A_b86_89, st89⟩ := own_stI X86 hx hZ e86 A_b86_86 (j := (0 : Int32)) ⟨by decide, by decide⟩ (g := (mkF m 419 #[.val (.int p0), .val (.int p1), .val (.int p2), .val (.int p3), .val (.int p4), .val (.int (p0 &&& (7 : Int32))), .val (.int z1), .val (.int z2), .val (.int z6), .val (.int z10), .val (.int (p1 &&& (15 : Int32))), .val (.int z11), .val (.int z12), .val (.int z13), .val (.ref b14), .val (.ref b32rb), .val (.int z34), .val (.int z41), .val (.int z49), .val (.int z55), .val (.int z64), .val (.int z74), .val (.int z85), .val (.ref b86), .val (.int (0 : Int32))] [(.int p2), (.int (0 : Int32)), (.ref b86)])) rfl rfl (hb hby at_419)
                      have A_b32rb_89 := A_b32rb_86.other W89 ne_b32rb_b86
                      have N89 := Fr.snoc X89 N84 ge_b86
                      have Z89 : n0 ≤ h89.size := Nat.le_trans Z86 (Keep.of_wr W89).1
                      obtain ⟨f89, hf89⟩ : ∃ z, z = (own_set (fun _ => (0 : Int32)) (0 : Int32) p2) := ⟨_, rfl⟩
                      rw [← hf89] at A_b86_89
                      refine own_go (fun tg k => st89 tg k) ?_
                      show own_Fin _ _ _ _ _ _ _ (T89.setTop (mkF m 420 #[.val (.int p0), .val (.int p1), .val (.int p2), .val (.int p3), .val (.int p4), .val (.int (p0 &&& (7 : Int32))), .val (.int z1), .val (.int z2), .val (.int z6), .val (.int z10), .val (.int (p1 &&& (15 : Int32))), .val (.int z11), .val (.int z12), .val (.int z13), .val (.ref b14), .val (.ref b32rb), .val (.int z34), .val (.int z41), .val (.int z49), .val (.int z55), .val (.int z64), .val (.int z74), .val (.int z85), .val (.ref b86), .val (.int (0 : Int32))] []))
                      refine own_go (fun _ k => XS.iinc X89.here hx rfl (hb hby at_420) rfl (l' := #[.val (.int p0), .val (.int p1), .val (.int p2), .val (.int p3), .val (.int p4), .val (.int (p0 &&& (7 : Int32))), .val (.int z1), .val (.int z2), .val (.int z6), .val (.int z10), .val (.int (p1 &&& (15 : Int32))), .val (.int z11), .val (.int z12), .val (.int z13), .val (.ref b14), .val (.ref b32rb), .val (.int z34), .val (.int z41), .val (.int z49), .val (.int z55), .val (.int z64), .val (.int z74), .val (.int z85), .val (.ref b86), .val (.int (1 : Int32))]) rfl k) ?_
                      show own_Fin _ _ _ _ _ _ _ (T89.setTop (mkF m 423 #[.val (.int p0), .val (.int p1), .val (.int p2), .val (.int p3), .val (.int p4), .val (.int (p0 &&& (7 : Int32))), .val (.int z1), .val (.int z2), .val (.int z6), .val (.int z10), .val (.int (p1 &&& (15 : Int32))), .val (.int z11), .val (.int z12), .val (.int z13), .val (.ref b14), .val (.ref b32rb), .val (.int z34), .val (.int z41), .val (.int z49), .val (.int z55), .val (.int z64), .val (.int z74), .val (.int z85), .val (.ref b86), .val (.int (1 : Int32))] []))
                      have kj := hk88 T89 _ h89 (own_mono X89 (by decide) (by decide)) N89 e89 Z89 A_b32rb_89 (by subst hf89; simp only [if_neg hc87]; exact A_b86_89)
                      try subst hf89
                      simpa only [if_neg hc87] using kj
                  by_cases hc75 : z10 = (0 : Int32)
                  · refine own_go (fun _ k => XS.ifYes X73.here hx rfl (pc0 := 353) (pc' := 397) rfl (hb hby at_353) rfl ((if0 _ _).trans (teq hc75).1) (by decide) (by decide) k) ?_
                    show own_Fin _ _ _ _ _ _ _ (T73.setTop (mkF m 397 #[.val (.int p0), .val (.int p1), .val (.int p2), .val (.int p3), .val (.int p4), .val (.int (p0 &&& (7 : Int32))), .val (.int z1), .val (.int z2), .val (.int z6), .val (.int z10), .val (.int (p1 &&& (15 : Int32))), .val (.int z11), .val (.int z12), .val (.int z13), .val (.ref b14), .val (.ref b32rb), .val (.int z34), .val (.int z41), .val (.int z49), .val (.int z55), .val (.int z64), .val (.int z74), .unset, .unset, .unset] []))
                    refine own_go (fun _ k => XS.iconst X73.here hx rfl (hb hby at_397) k) ?_
                    show own_Fin _ _ _ _ _ _ _ (T73.setTop (mkF m 398 #[.val (.int p0), .val (.int p1), .val (.int p2), .val (.int p3), .val (.int p4), .val (.int (p0 &&& (7 : Int32))), .val (.int z1), .val (.int z2), .val (.int z6), .val (.int z10), .val (.int (p1 &&& (15 : Int32))), .val (.int z11), .val (.int z12), .val (.int z13), .val (.ref b14), .val (.ref b32rb), .val (.int z34), .val (.int z41), .val (.int z49), .val (.int z55), .val (.int z64), .val (.int z74), .unset, .unset, .unset] [(.int (0 : Int32))]))
                    have kj := hk76 T73 _ (own_mono X73 (by decide) (by decide)) N73 e73
                    simpa only [if_pos hc75] using kj
                  · refine own_go (fun _ k => XS.ifNo X73.here hx rfl (hb hby at_353) rfl ((if0 _ _).trans (feq hc75).1) k) ?_
                    show own_Fin _ _ _ _ _ _ _ (T73.setTop (mkF m 356 #[.val (.int p0), .val (.int p1), .val (.int p2), .val (.int p3), .val (.int p4), .val (.int (p0 &&& (7 : Int32))), .val (.int z1), .val (.int z2), .val (.int z6), .val (.int z10), .val (.int (p1 &&& (15 : Int32))), .val (.int z11), .val (.int z12), .val (.int z13), .val (.ref b14), .val (.ref b32rb), .val (.int z34), .val (.int z41), .val (.int z49), .val (.int z55), .val (.int z64), .val (.int z74), .unset, .unset, .unset] []))
                    refine own_go (fun _ k => XS.iload X73.here hx rfl (hb hby at_356) rfl k) ?_
                    refine own_go (fun _ k => XS.iload X73.here hx rfl (hb hby at_358) rfl k) ?_
                    refine own_go (fun _ k => XS.iload X73.here hx rfl (hb hby at_360) rfl k) ?_
                    obtain ⟨_, _, ⟨T77, L77, k77, n77⟩, -, X77, ⟨Lc77, hQ77, l77, y77, z77⟩, st77⟩ := Jvm.LawKit.callS X73 hx (y := (⟨"com/example/reachability/reachability/CandidateListFoundElementsPinLaw", "in", "(III)Z"⟩ : MethodName)) hown (mvT hZ (hw _ (List.mem_of_getElem? (i := 75) rfl))) (mvT hZ (hw _ (List.mem_of_getElem? (i := 76) rfl))) (mvT hZ (hw _ (List.mem_of_getElem? (i := 77) rfl))) (mvT hZ (hw _ (List.mem_of_getElem? (i := 78) rfl))) (by decide) (backOf (W := 0) (rm12 l Z a0 hw [] z2 z12 z13 T32.heap n0 Z32) hZ (hw _ (List.mem_of_getElem? (i := 78) rfl)) (hw _ (List.mem_of_getElem? (i := 77) rfl)) (by decide) (by decide)) (g := (mkF m 362 #[.val (.int p0), .val (.int p1), .val (.int p2), .val (.int p3), .val (.int p4), .val (.int (p0 &&& (7 : Int32))), .val (.int z1), .val (.int z2), .val (.int z6), .val (.int z10), .val (.int (p1 &&& (15 : Int32))), .val (.int z11), .val (.int z12), .val (.int z13), .val (.ref b14), .val (.ref b32rb), .val (.int z34), .val (.int z41), .val (.int z49), .val (.int z55), .val (.int z64), .val (.int z74), .unset, .unset, .unset] [(.int z13), (.int z12), (.int z2)])) rfl (by rw [hml]; rfl) (argsL := [(.int z2), (.int z12), (.int z13)]) (rest := []) (lenOf own_pd573 rfl) rfl (by show 2 * 0 + _ ≤ _; exact Nat.le_of_eq rfl) (hb hby at_362) (fun _ _ => ⟨rfl, e73, (by decide : 9 + 0 ≤ _), (by decide : 43 + 0 ≤ _)⟩)
                    dsimp only [Pt.U, Pt.locs, Pt.cells, Pt.slots] at X77 l77 y77 z77 st77 hQ77
                    replace y77 : 9 = k77 := y77.symm
                    replace z77 : 43 = n77 := z77.symm
                    subst y77 z77
                    obtain ⟨rfl, N77q, e77⟩ := hQ77
                    have N77 : Fr n0 L77 := by rw [l77]; exact Fr.app N73 N77q
                    refine own_go (fun tg k => st77 tg k) ?_
                    show own_Fin _ _ _ _ _ _ _ (T77.setTop (mkF m 365 #[.val (.int p0), .val (.int p1), .val (.int p2), .val (.int p3), .val (.int p4), .val (.int (p0 &&& (7 : Int32))), .val (.int z1), .val (.int z2), .val (.int z6), .val (.int z10), .val (.int (p1 &&& (15 : Int32))), .val (.int z11), .val (.int z12), .val (.int z13), .val (.ref b14), .val (.ref b32rb), .val (.int z34), .val (.int z41), .val (.int z49), .val (.int z55), .val (.int z64), .val (.int z74), .unset, .unset, .unset] [(.int (own_f12 z2 z12 z13))]))
                    by_cases hc78 : (own_f12 z2 z12 z13) = (0 : Int32)
                    · refine own_go (fun _ k => XS.ifYes X77.here hx rfl (pc0 := 365) (pc' := 397) rfl (hb hby at_365) rfl ((if0 _ _).trans (teq hc78).1) (by decide) (by decide) k) ?_
                      show own_Fin _ _ _ _ _ _ _ (T77.setTop (mkF m 397 #[.val (.int p0), .val (.int p1), .val (.int p2), .val (.int p3), .val (.int p4), .val (.int (p0 &&& (7 : Int32))), .val (.int z1), .val (.int z2), .val (.int z6), .val (.int z10), .val (.int (p1 &&& (15 : Int32))), .val (.int z11), .val (.int z12), .val (.int z13), .val (.ref b14), .val (.ref b32rb), .val (.int z34), .val (.int z41), .val (.int z49), .val (.int z55), .val (.int z64), .val (.int z74), .unset, .unset, .unset] []))
                      refine own_go (fun _ k => XS.iconst X77.here hx rfl (hb hby at_397) k) ?_
                      show own_Fin _ _ _ _ _ _ _ (T77.setTop (mkF m 398 #[.val (.int p0), .val (.int p1), .val (.int p2), .val (.int p3), .val (.int p4), .val (.int (p0 &&& (7 : Int32))), .val (.int z1), .val (.int z2), .val (.int z6), .val (.int z10), .val (.int (p1 &&& (15 : Int32))), .val (.int z11), .val (.int z12), .val (.int z13), .val (.ref b14), .val (.ref b32rb), .val (.int z34), .val (.int z41), .val (.int z49), .val (.int z55), .val (.int z64), .val (.int z74), .unset, .unset, .unset] [(.int (0 : Int32))]))
                      have kj := hk76 T77 _ (own_mono X77 (by decide) (by decide)) N77 e77
                      simpa only [if_neg hc75, if_pos hc78] using kj
                    · refine own_go (fun _ k => XS.ifNo X77.here hx rfl (hb hby at_365) rfl ((if0 _ _).trans (feq hc78).1) k) ?_
                      show own_Fin _ _ _ _ _ _ _ (T77.setTop (mkF m 368 #[.val (.int p0), .val (.int p1), .val (.int p2), .val (.int p3), .val (.int p4), .val (.int (p0 &&& (7 : Int32))), .val (.int z1), .val (.int z2), .val (.int z6), .val (.int z10), .val (.int (p1 &&& (15 : Int32))), .val (.int z11), .val (.int z12), .val (.int z13), .val (.ref b14), .val (.ref b32rb), .val (.int z34), .val (.int z41), .val (.int z49), .val (.int z55), .val (.int z64), .val (.int z74), .unset, .unset, .unset] []))
                      refine own_go (fun _ k => XS.iload X77.here hx rfl (hb hby at_368) rfl k) ?_
                      show own_Fin _ _ _ _ _ _ _ (T77.setTop (mkF m 370 #[.val (.int p0), .val (.int p1), .val (.int p2), .val (.int p3), .val (.int p4), .val (.int (p0 &&& (7 : Int32))), .val (.int z1), .val (.int z2), .val (.int z6), .val (.int z10), .val (.int (p1 &&& (15 : Int32))), .val (.int z11), .val (.int z12), .val (.int z13), .val (.ref b14), .val (.ref b32rb), .val (.int z34), .val (.int z41), .val (.int z49), .val (.int z55), .val (.int z64), .val (.int z74), .unset, .unset, .unset] [(.int z49)]))
                      by_cases hc79 : z49 = (0 : Int32)
                      · refine own_go (fun _ k => XS.ifNo X77.here hx rfl (hb hby at_370) rfl ((if0 _ _).trans (teq hc79).2) k) ?_
                        show own_Fin _ _ _ _ _ _ _ (T77.setTop (mkF m 373 #[.val (.int p0), .val (.int p1), .val (.int p2), .val (.int p3), .val (.int p4), .val (.int (p0 &&& (7 : Int32))), .val (.int z1), .val (.int z2), .val (.int z6), .val (.int z10), .val (.int (p1 &&& (15 : Int32))), .val (.int z11), .val (.int z12), .val (.int z13), .val (.ref b14), .val (.ref b32rb), .val (.int z34), .val (.int z41), .val (.int z49), .val (.int z55), .val (.int z64), .val (.int z74), .unset, .unset, .unset] []))
                        refine own_go (fun _ k => XS.iload X77.here hx rfl (hb hby at_373) rfl k) ?_
                        show own_Fin _ _ _ _ _ _ _ (T77.setTop (mkF m 375 #[.val (.int p0), .val (.int p1), .val (.int p2), .val (.int p3), .val (.int p4), .val (.int (p0 &&& (7 : Int32))), .val (.int z1), .val (.int z2), .val (.int z6), .val (.int z10), .val (.int (p1 &&& (15 : Int32))), .val (.int z11), .val (.int z12), .val (.int z13), .val (.ref b14), .val (.ref b32rb), .val (.int z34), .val (.int z41), .val (.int z49), .val (.int z55), .val (.int z64), .val (.int z74), .unset, .unset, .unset] [(.int z6)]))
                        by_cases hc80 : z6 = (0 : Int32)
                        · refine own_go (fun _ k => XS.ifYes X77.here hx rfl (pc0 := 375) (pc' := 393) rfl (hb hby at_375) rfl ((if0 _ _).trans (teq hc80).1) (by decide) (by decide) k) ?_
                          show own_Fin _ _ _ _ _ _ _ (T77.setTop (mkF m 393 #[.val (.int p0), .val (.int p1), .val (.int p2), .val (.int p3), .val (.int p4), .val (.int (p0 &&& (7 : Int32))), .val (.int z1), .val (.int z2), .val (.int z6), .val (.int z10), .val (.int (p1 &&& (15 : Int32))), .val (.int z11), .val (.int z12), .val (.int z13), .val (.ref b14), .val (.ref b32rb), .val (.int z34), .val (.int z41), .val (.int z49), .val (.int z55), .val (.int z64), .val (.int z74), .unset, .unset, .unset] []))
                          refine own_go (fun _ k => XS.iconst X77.here hx rfl (hb hby at_393) k) ?_
                          show own_Fin _ _ _ _ _ _ _ (T77.setTop (mkF m 394 #[.val (.int p0), .val (.int p1), .val (.int p2), .val (.int p3), .val (.int p4), .val (.int (p0 &&& (7 : Int32))), .val (.int z1), .val (.int z2), .val (.int z6), .val (.int z10), .val (.int (p1 &&& (15 : Int32))), .val (.int z11), .val (.int z12), .val (.int z13), .val (.ref b14), .val (.ref b32rb), .val (.int z34), .val (.int z41), .val (.int z49), .val (.int z55), .val (.int z64), .val (.int z74), .unset, .unset, .unset] [(.int (1 : Int32))]))
                          refine own_go (fun _ k => XS.goto X77.here hx rfl (pc0 := 394) (pc' := 398) rfl (hb hby at_394) (by decide) (by decide) k) ?_
                          show own_Fin _ _ _ _ _ _ _ (T77.setTop (mkF m 398 #[.val (.int p0), .val (.int p1), .val (.int p2), .val (.int p3), .val (.int p4), .val (.int (p0 &&& (7 : Int32))), .val (.int z1), .val (.int z2), .val (.int z6), .val (.int z10), .val (.int (p1 &&& (15 : Int32))), .val (.int z11), .val (.int z12), .val (.int z13), .val (.ref b14), .val (.ref b32rb), .val (.int z34), .val (.int z41), .val (.int z49), .val (.int z55), .val (.int z64), .val (.int z74), .unset, .unset, .unset] [(.int (1 : Int32))]))
                          have kj := hk76 T77 _ (own_mono X77 (by decide) (by decide)) N77 e77
                          simpa only [if_neg hc75, if_neg hc78, if_pos hc79, if_pos hc80] using kj
                        · refine own_go (fun _ k => XS.ifNo X77.here hx rfl (hb hby at_375) rfl ((if0 _ _).trans (feq hc80).1) k) ?_
                          show own_Fin _ _ _ _ _ _ _ (T77.setTop (mkF m 378 #[.val (.int p0), .val (.int p1), .val (.int p2), .val (.int p3), .val (.int p4), .val (.int (p0 &&& (7 : Int32))), .val (.int z1), .val (.int z2), .val (.int z6), .val (.int z10), .val (.int (p1 &&& (15 : Int32))), .val (.int z11), .val (.int z12), .val (.int z13), .val (.ref b14), .val (.ref b32rb), .val (.int z34), .val (.int z41), .val (.int z49), .val (.int z55), .val (.int z64), .val (.int z74), .unset, .unset, .unset] []))
                          refine own_go (fun _ k => XS.iload X77.here hx rfl (hb hby at_378) rfl k) ?_
                          show own_Fin _ _ _ _ _ _ _ (T77.setTop (mkF m 380 #[.val (.int p0), .val (.int p1), .val (.int p2), .val (.int p3), .val (.int p4), .val (.int (p0 &&& (7 : Int32))), .val (.int z1), .val (.int z2), .val (.int z6), .val (.int z10), .val (.int (p1 &&& (15 : Int32))), .val (.int z11), .val (.int z12), .val (.int z13), .val (.ref b14), .val (.ref b32rb), .val (.int z34), .val (.int z41), .val (.int z49), .val (.int z55), .val (.int z64), .val (.int z74), .unset, .unset, .unset] [(.int z55)]))
                          by_cases hc81 : z55 = (0 : Int32)
                          · refine own_go (fun _ k => XS.ifNo X77.here hx rfl (hb hby at_380) rfl ((if0 _ _).trans (teq hc81).2) k) ?_
                            show own_Fin _ _ _ _ _ _ _ (T77.setTop (mkF m 383 #[.val (.int p0), .val (.int p1), .val (.int p2), .val (.int p3), .val (.int p4), .val (.int (p0 &&& (7 : Int32))), .val (.int z1), .val (.int z2), .val (.int z6), .val (.int z10), .val (.int (p1 &&& (15 : Int32))), .val (.int z11), .val (.int z12), .val (.int z13), .val (.ref b14), .val (.ref b32rb), .val (.int z34), .val (.int z41), .val (.int z49), .val (.int z55), .val (.int z64), .val (.int z74), .unset, .unset, .unset] []))
                            refine own_go (fun _ k => XS.iload X77.here hx rfl (hb hby at_383) rfl k) ?_
                            show own_Fin _ _ _ _ _ _ _ (T77.setTop (mkF m 385 #[.val (.int p0), .val (.int p1), .val (.int p2), .val (.int p3), .val (.int p4), .val (.int (p0 &&& (7 : Int32))), .val (.int z1), .val (.int z2), .val (.int z6), .val (.int z10), .val (.int (p1 &&& (15 : Int32))), .val (.int z11), .val (.int z12), .val (.int z13), .val (.ref b14), .val (.ref b32rb), .val (.int z34), .val (.int z41), .val (.int z49), .val (.int z55), .val (.int z64), .val (.int z74), .unset, .unset, .unset] [(.int z64)]))
                            by_cases hc82 : z64 = (0 : Int32)
                            · refine own_go (fun _ k => XS.ifNo X77.here hx rfl (hb hby at_385) rfl ((if0 _ _).trans (teq hc82).2) k) ?_
                              show own_Fin _ _ _ _ _ _ _ (T77.setTop (mkF m 388 #[.val (.int p0), .val (.int p1), .val (.int p2), .val (.int p3), .val (.int p4), .val (.int (p0 &&& (7 : Int32))), .val (.int z1), .val (.int z2), .val (.int z6), .val (.int z10), .val (.int (p1 &&& (15 : Int32))), .val (.int z11), .val (.int z12), .val (.int z13), .val (.ref b14), .val (.ref b32rb), .val (.int z34), .val (.int z41), .val (.int z49), .val (.int z55), .val (.int z64), .val (.int z74), .unset, .unset, .unset] []))
                              refine own_go (fun _ k => XS.iload X77.here hx rfl (hb hby at_388) rfl k) ?_
                              show own_Fin _ _ _ _ _ _ _ (T77.setTop (mkF m 390 #[.val (.int p0), .val (.int p1), .val (.int p2), .val (.int p3), .val (.int p4), .val (.int (p0 &&& (7 : Int32))), .val (.int z1), .val (.int z2), .val (.int z6), .val (.int z10), .val (.int (p1 &&& (15 : Int32))), .val (.int z11), .val (.int z12), .val (.int z13), .val (.ref b14), .val (.ref b32rb), .val (.int z34), .val (.int z41), .val (.int z49), .val (.int z55), .val (.int z64), .val (.int z74), .unset, .unset, .unset] [(.int z74)]))
                              by_cases hc83 : z74 = (0 : Int32)
                              · refine own_go (fun _ k => XS.ifNo X77.here hx rfl (hb hby at_390) rfl ((if0 _ _).trans (teq hc83).2) k) ?_
                                show own_Fin _ _ _ _ _ _ _ (T77.setTop (mkF m 393 #[.val (.int p0), .val (.int p1), .val (.int p2), .val (.int p3), .val (.int p4), .val (.int (p0 &&& (7 : Int32))), .val (.int z1), .val (.int z2), .val (.int z6), .val (.int z10), .val (.int (p1 &&& (15 : Int32))), .val (.int z11), .val (.int z12), .val (.int z13), .val (.ref b14), .val (.ref b32rb), .val (.int z34), .val (.int z41), .val (.int z49), .val (.int z55), .val (.int z64), .val (.int z74), .unset, .unset, .unset] []))
                                refine own_go (fun _ k => XS.iconst X77.here hx rfl (hb hby at_393) k) ?_
                                show own_Fin _ _ _ _ _ _ _ (T77.setTop (mkF m 394 #[.val (.int p0), .val (.int p1), .val (.int p2), .val (.int p3), .val (.int p4), .val (.int (p0 &&& (7 : Int32))), .val (.int z1), .val (.int z2), .val (.int z6), .val (.int z10), .val (.int (p1 &&& (15 : Int32))), .val (.int z11), .val (.int z12), .val (.int z13), .val (.ref b14), .val (.ref b32rb), .val (.int z34), .val (.int z41), .val (.int z49), .val (.int z55), .val (.int z64), .val (.int z74), .unset, .unset, .unset] [(.int (1 : Int32))]))
                                refine own_go (fun _ k => XS.goto X77.here hx rfl (pc0 := 394) (pc' := 398) rfl (hb hby at_394) (by decide) (by decide) k) ?_
                                show own_Fin _ _ _ _ _ _ _ (T77.setTop (mkF m 398 #[.val (.int p0), .val (.int p1), .val (.int p2), .val (.int p3), .val (.int p4), .val (.int (p0 &&& (7 : Int32))), .val (.int z1), .val (.int z2), .val (.int z6), .val (.int z10), .val (.int (p1 &&& (15 : Int32))), .val (.int z11), .val (.int z12), .val (.int z13), .val (.ref b14), .val (.ref b32rb), .val (.int z34), .val (.int z41), .val (.int z49), .val (.int z55), .val (.int z64), .val (.int z74), .unset, .unset, .unset] [(.int (1 : Int32))]))
                                have kj := hk76 T77 _ (own_mono X77 (by decide) (by decide)) N77 e77
                                simpa only [if_neg hc75, if_neg hc78, if_pos hc79, if_neg hc80, if_pos hc81, if_pos hc82, if_pos hc83] using kj
                              · refine own_go (fun _ k => XS.ifYes X77.here hx rfl (pc0 := 390) (pc' := 397) rfl (hb hby at_390) rfl ((if0 _ _).trans (feq hc83).2) (by decide) (by decide) k) ?_
                                show own_Fin _ _ _ _ _ _ _ (T77.setTop (mkF m 397 #[.val (.int p0), .val (.int p1), .val (.int p2), .val (.int p3), .val (.int p4), .val (.int (p0 &&& (7 : Int32))), .val (.int z1), .val (.int z2), .val (.int z6), .val (.int z10), .val (.int (p1 &&& (15 : Int32))), .val (.int z11), .val (.int z12), .val (.int z13), .val (.ref b14), .val (.ref b32rb), .val (.int z34), .val (.int z41), .val (.int z49), .val (.int z55), .val (.int z64), .val (.int z74), .unset, .unset, .unset] []))
                                refine own_go (fun _ k => XS.iconst X77.here hx rfl (hb hby at_397) k) ?_
                                show own_Fin _ _ _ _ _ _ _ (T77.setTop (mkF m 398 #[.val (.int p0), .val (.int p1), .val (.int p2), .val (.int p3), .val (.int p4), .val (.int (p0 &&& (7 : Int32))), .val (.int z1), .val (.int z2), .val (.int z6), .val (.int z10), .val (.int (p1 &&& (15 : Int32))), .val (.int z11), .val (.int z12), .val (.int z13), .val (.ref b14), .val (.ref b32rb), .val (.int z34), .val (.int z41), .val (.int z49), .val (.int z55), .val (.int z64), .val (.int z74), .unset, .unset, .unset] [(.int (0 : Int32))]))
                                have kj := hk76 T77 _ (own_mono X77 (by decide) (by decide)) N77 e77
                                simpa only [if_neg hc75, if_neg hc78, if_pos hc79, if_neg hc80, if_pos hc81, if_pos hc82, if_neg hc83] using kj
                            · refine own_go (fun _ k => XS.ifYes X77.here hx rfl (pc0 := 385) (pc' := 397) rfl (hb hby at_385) rfl ((if0 _ _).trans (feq hc82).2) (by decide) (by decide) k) ?_
                              show own_Fin _ _ _ _ _ _ _ (T77.setTop (mkF m 397 #[.val (.int p0), .val (.int p1), .val (.int p2), .val (.int p3), .val (.int p4), .val (.int (p0 &&& (7 : Int32))), .val (.int z1), .val (.int z2), .val (.int z6), .val (.int z10), .val (.int (p1 &&& (15 : Int32))), .val (.int z11), .val (.int z12), .val (.int z13), .val (.ref b14), .val (.ref b32rb), .val (.int z34), .val (.int z41), .val (.int z49), .val (.int z55), .val (.int z64), .val (.int z74), .unset, .unset, .unset] []))
                              refine own_go (fun _ k => XS.iconst X77.here hx rfl (hb hby at_397) k) ?_
                              show own_Fin _ _ _ _ _ _ _ (T77.setTop (mkF m 398 #[.val (.int p0), .val (.int p1), .val (.int p2), .val (.int p3), .val (.int p4), .val (.int (p0 &&& (7 : Int32))), .val (.int z1), .val (.int z2), .val (.int z6), .val (.int z10), .val (.int (p1 &&& (15 : Int32))), .val (.int z11), .val (.int z12), .val (.int z13), .val (.ref b14), .val (.ref b32rb), .val (.int z34), .val (.int z41), .val (.int z49), .val (.int z55), .val (.int z64), .val (.int z74), .unset, .unset, .unset] [(.int (0 : Int32))]))
                              have kj := hk76 T77 _ (own_mono X77 (by decide) (by decide)) N77 e77
                              simpa only [if_neg hc75, if_neg hc78, if_pos hc79, if_neg hc80, if_pos hc81, if_neg hc82] using kj
                          · refine own_go (fun _ k => XS.ifYes X77.here hx rfl (pc0 := 380) (pc' := 397) rfl (hb hby at_380) rfl ((if0 _ _).trans (feq hc81).2) (by decide) (by decide) k) ?_
                            show own_Fin _ _ _ _ _ _ _ (T77.setTop (mkF m 397 #[.val (.int p0), .val (.int p1), .val (.int p2), .val (.int p3), .val (.int p4), .val (.int (p0 &&& (7 : Int32))), .val (.int z1), .val (.int z2), .val (.int z6), .val (.int z10), .val (.int (p1 &&& (15 : Int32))), .val (.int z11), .val (.int z12), .val (.int z13), .val (.ref b14), .val (.ref b32rb), .val (.int z34), .val (.int z41), .val (.int z49), .val (.int z55), .val (.int z64), .val (.int z74), .unset, .unset, .unset] []))
                            refine own_go (fun _ k => XS.iconst X77.here hx rfl (hb hby at_397) k) ?_
                            show own_Fin _ _ _ _ _ _ _ (T77.setTop (mkF m 398 #[.val (.int p0), .val (.int p1), .val (.int p2), .val (.int p3), .val (.int p4), .val (.int (p0 &&& (7 : Int32))), .val (.int z1), .val (.int z2), .val (.int z6), .val (.int z10), .val (.int (p1 &&& (15 : Int32))), .val (.int z11), .val (.int z12), .val (.int z13), .val (.ref b14), .val (.ref b32rb), .val (.int z34), .val (.int z41), .val (.int z49), .val (.int z55), .val (.int z64), .val (.int z74), .unset, .unset, .unset] [(.int (0 : Int32))]))
                            have kj := hk76 T77 _ (own_mono X77 (by decide) (by decide)) N77 e77
                            simpa only [if_neg hc75, if_neg hc78, if_pos hc79, if_neg hc80, if_neg hc81] using kj
                      · refine own_go (fun _ k => XS.ifYes X77.here hx rfl (pc0 := 370) (pc' := 397) rfl (hb hby at_370) rfl ((if0 _ _).trans (feq hc79).2) (by decide) (by decide) k) ?_
                        show own_Fin _ _ _ _ _ _ _ (T77.setTop (mkF m 397 #[.val (.int p0), .val (.int p1), .val (.int p2), .val (.int p3), .val (.int p4), .val (.int (p0 &&& (7 : Int32))), .val (.int z1), .val (.int z2), .val (.int z6), .val (.int z10), .val (.int (p1 &&& (15 : Int32))), .val (.int z11), .val (.int z12), .val (.int z13), .val (.ref b14), .val (.ref b32rb), .val (.int z34), .val (.int z41), .val (.int z49), .val (.int z55), .val (.int z64), .val (.int z74), .unset, .unset, .unset] []))
                        refine own_go (fun _ k => XS.iconst X77.here hx rfl (hb hby at_397) k) ?_
                        show own_Fin _ _ _ _ _ _ _ (T77.setTop (mkF m 398 #[.val (.int p0), .val (.int p1), .val (.int p2), .val (.int p3), .val (.int p4), .val (.int (p0 &&& (7 : Int32))), .val (.int z1), .val (.int z2), .val (.int z6), .val (.int z10), .val (.int (p1 &&& (15 : Int32))), .val (.int z11), .val (.int z12), .val (.int z13), .val (.ref b14), .val (.ref b32rb), .val (.int z34), .val (.int z41), .val (.int z49), .val (.int z55), .val (.int z64), .val (.int z74), .unset, .unset, .unset] [(.int (0 : Int32))]))
                        have kj := hk76 T77 _ (own_mono X77 (by decide) (by decide)) N77 e77
                        simpa only [if_neg hc75, if_neg hc78, if_neg hc79] using kj
                by_cases hc65 : z10 = (0 : Int32)
                · refine own_go (fun _ k => XS.ifYes X63.here hx rfl (pc0 := 309) (pc' := 348) rfl (hb hby at_309) rfl ((if0 _ _).trans (teq hc65).1) (by decide) (by decide) k) ?_
                  show own_Fin _ _ _ _ _ _ _ (T63.setTop (mkF m 348 #[.val (.int p0), .val (.int p1), .val (.int p2), .val (.int p3), .val (.int p4), .val (.int (p0 &&& (7 : Int32))), .val (.int z1), .val (.int z2), .val (.int z6), .val (.int z10), .val (.int (p1 &&& (15 : Int32))), .val (.int z11), .val (.int z12), .val (.int z13), .val (.ref b14), .val (.ref b32rb), .val (.int z34), .val (.int z41), .val (.int z49), .val (.int z55), .val (.int z64), .unset, .unset, .unset, .unset] []))
                  refine own_go (fun _ k => XS.iconst X63.here hx rfl (hb hby at_348) k) ?_
                  show own_Fin _ _ _ _ _ _ _ (T63.setTop (mkF m 349 #[.val (.int p0), .val (.int p1), .val (.int p2), .val (.int p3), .val (.int p4), .val (.int (p0 &&& (7 : Int32))), .val (.int z1), .val (.int z2), .val (.int z6), .val (.int z10), .val (.int (p1 &&& (15 : Int32))), .val (.int z11), .val (.int z12), .val (.int z13), .val (.ref b14), .val (.ref b32rb), .val (.int z34), .val (.int z41), .val (.int z49), .val (.int z55), .val (.int z64), .unset, .unset, .unset, .unset] [(.int (0 : Int32))]))
                  have kj := hk66 T63 _ (own_mono X63 (by decide) (by decide)) N63 e63
                  simpa only [if_pos hc65] using kj
                · refine own_go (fun _ k => XS.ifNo X63.here hx rfl (hb hby at_309) rfl ((if0 _ _).trans (feq hc65).1) k) ?_
                  show own_Fin _ _ _ _ _ _ _ (T63.setTop (mkF m 312 #[.val (.int p0), .val (.int p1), .val (.int p2), .val (.int p3), .val (.int p4), .val (.int (p0 &&& (7 : Int32))), .val (.int z1), .val (.int z2), .val (.int z6), .val (.int z10), .val (.int (p1 &&& (15 : Int32))), .val (.int z11), .val (.int z12), .val (.int z13), .val (.ref b14), .val (.ref b32rb), .val (.int z34), .val (.int z41), .val (.int z49), .val (.int z55), .val (.int z64), .unset, .unset, .unset, .unset] []))
                  refine own_go (fun _ k => XS.iload X63.here hx rfl (hb hby at_312) rfl k) ?_
                  refine own_go (fun _ k => XS.iload X63.here hx rfl (hb hby at_314) rfl k) ?_
                  refine own_go (fun _ k => XS.iload X63.here hx rfl (hb hby at_316) rfl k) ?_
                  obtain ⟨_, _, ⟨T67, L67, k67, n67⟩, -, X67, ⟨Lc67, hQ67, l67, y67, z67⟩, st67⟩ := Jvm.LawKit.callS X63 hx (y := (⟨"com/example/reachability/reachability/CandidateListFoundElementsPinLaw", "in", "(III)Z"⟩ : MethodName)) hown (mvT hZ (hw _ (List.mem_of_getElem? (i := 75) rfl))) (mvT hZ (hw _ (List.mem_of_getElem? (i := 76) rfl))) (mvT hZ (hw _ (List.mem_of_getElem? (i := 77) rfl))) (mvT hZ (hw _ (List.mem_of_getElem? (i := 78) rfl))) (by decide) (backOf (W := 0) (rm12 l Z a0 hw [] z1 z12 z13 T32.heap n0 Z32) hZ (hw _ (List.mem_of_getElem? (i := 78) rfl)) (hw _ (List.mem_of_getElem? (i := 77) rfl)) (by decide) (by decide)) (g := (mkF m 318 #[.val (.int p0), .val (.int p1), .val (.int p2), .val (.int p3), .val (.int p4), .val (.int (p0 &&& (7 : Int32))), .val (.int z1), .val (.int z2), .val (.int z6), .val (.int z10), .val (.int (p1 &&& (15 : Int32))), .val (.int z11), .val (.int z12), .val (.int z13), .val (.ref b14), .val (.ref b32rb), .val (.int z34), .val (.int z41), .val (.int z49), .val (.int z55), .val (.int z64), .unset, .unset, .unset, .unset] [(.int z13), (.int z12), (.int z1)])) rfl (by rw [hml]; rfl) (argsL := [(.int z1), (.int z12), (.int z13)]) (rest := []) (lenOf own_pd573 rfl) rfl (by show 2 * 0 + _ ≤ _; exact Nat.le_of_eq rfl) (hb hby at_318) (fun _ _ => ⟨rfl, e63, (by decide : 9 + 0 ≤ _), (by decide : 43 + 0 ≤ _)⟩)
                  dsimp only [Pt.U, Pt.locs, Pt.cells, Pt.slots] at X67 l67 y67 z67 st67 hQ67
                  replace y67 : 9 = k67 := y67.symm
                  replace z67 : 43 = n67 := z67.symm
                  subst y67 z67
                  obtain ⟨rfl, N67q, e67⟩ := hQ67
                  have N67 : Fr n0 L67 := by rw [l67]; exact Fr.app N63 N67q
                  refine own_go (fun tg k => st67 tg k) ?_
                  show own_Fin _ _ _ _ _ _ _ (T67.setTop (mkF m 321 #[.val (.int p0), .val (.int p1), .val (.int p2), .val (.int p3), .val (.int p4), .val (.int (p0 &&& (7 : Int32))), .val (.int z1), .val (.int z2), .val (.int z6), .val (.int z10), .val (.int (p1 &&& (15 : Int32))), .val (.int z11), .val (.int z12), .val (.int z13), .val (.ref b14), .val (.ref b32rb), .val (.int z34), .val (.int z41), .val (.int z49), .val (.int z55), .val (.int z64), .unset, .unset, .unset, .unset] [(.int (own_f12 z1 z12 z13))]))
                  by_cases hc68 : (own_f12 z1 z12 z13) = (0 : Int32)
                  · refine own_go (fun _ k => XS.ifYes X67.here hx rfl (pc0 := 321) (pc' := 348) rfl (hb hby at_321) rfl ((if0 _ _).trans (teq hc68).1) (by decide) (by decide) k) ?_
                    show own_Fin _ _ _ _ _ _ _ (T67.setTop (mkF m 348 #[.val (.int p0), .val (.int p1), .val (.int p2), .val (.int p3), .val (.int p4), .val (.int (p0 &&& (7 : Int32))), .val (.int z1), .val (.int z2), .val (.int z6), .val (.int z10), .val (.int (p1 &&& (15 : Int32))), .val (.int z11), .val (.int z12), .val (.int z13), .val (.ref b14), .val (.ref b32rb), .val (.int z34), .val (.int z41), .val (.int z49), .val (.int z55), .val (.int z64), .unset, .unset, .unset, .unset] []))
                    refine own_go (fun _ k => XS.iconst X67.here hx rfl (hb hby at_348) k) ?_
                    show own_Fin _ _ _ _ _ _ _ (T67.setTop (mkF m 349 #[.val (.int p0), .val (.int p1), .val (.int p2), .val (.int p3), .val (.int p4), .val (.int (p0 &&& (7 : Int32))), .val (.int z1), .val (.int z2), .val (.int z6), .val (.int z10), .val (.int (p1 &&& (15 : Int32))), .val (.int z11), .val (.int z12), .val (.int z13), .val (.ref b14), .val (.ref b32rb), .val (.int z34), .val (.int z41), .val (.int z49), .val (.int z55), .val (.int z64), .unset, .unset, .unset, .unset] [(.int (0 : Int32))]))
                    have kj := hk66 T67 _ (own_mono X67 (by decide) (by decide)) N67 e67
                    simpa only [if_neg hc65, if_pos hc68] using kj
                  · refine own_go (fun _ k => XS.ifNo X67.here hx rfl (hb hby at_321) rfl ((if0 _ _).trans (feq hc68).1) k) ?_
                    show own_Fin _ _ _ _ _ _ _ (T67.setTop (mkF m 324 #[.val (.int p0), .val (.int p1), .val (.int p2), .val (.int p3), .val (.int p4), .val (.int (p0 &&& (7 : Int32))), .val (.int z1), .val (.int z2), .val (.int z6), .val (.int z10), .val (.int (p1 &&& (15 : Int32))), .val (.int z11), .val (.int z12), .val (.int z13), .val (.ref b14), .val (.ref b32rb), .val (.int z34), .val (.int z41), .val (.int z49), .val (.int z55), .val (.int z64), .unset, .unset, .unset, .unset] []))
                    refine own_go (fun _ k => XS.iload X67.here hx rfl (hb hby at_324) rfl k) ?_
                    show own_Fin _ _ _ _ _ _ _ (T67.setTop (mkF m 326 #[.val (.int p0), .val (.int p1), .val (.int p2), .val (.int p3), .val (.int p4), .val (.int (p0 &&& (7 : Int32))), .val (.int z1), .val (.int z2), .val (.int z6), .val (.int z10), .val (.int (p1 &&& (15 : Int32))), .val (.int z11), .val (.int z12), .val (.int z13), .val (.ref b14), .val (.ref b32rb), .val (.int z34), .val (.int z41), .val (.int z49), .val (.int z55), .val (.int z64), .unset, .unset, .unset, .unset] [(.int z41)]))
                    by_cases hc69 : z41 = (0 : Int32)
                    · refine own_go (fun _ k => XS.ifNo X67.here hx rfl (hb hby at_326) rfl ((if0 _ _).trans (teq hc69).2) k) ?_
                      show own_Fin _ _ _ _ _ _ _ (T67.setTop (mkF m 329 #[.val (.int p0), .val (.int p1), .val (.int p2), .val (.int p3), .val (.int p4), .val (.int (p0 &&& (7 : Int32))), .val (.int z1), .val (.int z2), .val (.int z6), .val (.int z10), .val (.int (p1 &&& (15 : Int32))), .val (.int z11), .val (.int z12), .val (.int z13), .val (.ref b14), .val (.ref b32rb), .val (.int z34), .val (.int z41), .val (.int z49), .val (.int z55), .val (.int z64), .unset, .unset, .unset, .unset] []))
                      refine own_go (fun _ k => XS.iload X67.here hx rfl (hb hby at_329) rfl k) ?_
                      show own_Fin _ _ _ _ _ _ _ (T67.setTop (mkF m 331 #[.val (.int p0), .val (.int p1), .val (.int p2), .val (.int p3), .val (.int p4), .val (.int (p0 &&& (7 : Int32))), .val (.int z1), .val (.int z2), .val (.int z6), .val (.int z10), .val (.int (p1 &&& (15 : Int32))), .val (.int z11), .val (.int z12), .val (.int z13), .val (.ref b14), .val (.ref b32rb), .val (.int z34), .val (.int z41), .val (.int z49), .val (.int z55), .val (.int z64), .unset, .unset, .unset, .unset] [(.int z6)]))
                      by_cases hc70 : z6 = (0 : Int32)
                      · refine own_go (fun _ k => XS.ifYes X67.here hx rfl (pc0 := 331) (pc' := 344) rfl (hb hby at_331) rfl ((if0 _ _).trans (teq hc70).1) (by decide) (by decide) k) ?_
                        show own_Fin _ _ _ _ _ _ _ (T67.setTop (mkF m 344 #[.val (.int p0), .val (.int p1), .val (.int p2), .val (.int p3), .val (.int p4), .val (.int (p0 &&& (7 : Int32))), .val (.int z1), .val (.int z2), .val (.int z6), .val (.int z10), .val (.int (p1 &&& (15 : Int32))), .val (.int z11), .val (.int z12), .val (.int z13), .val (.ref b14), .val (.ref b32rb), .val (.int z34), .val (.int z41), .val (.int z49), .val (.int z55), .val (.int z64), .unset, .unset, .unset, .unset] []))
                        refine own_go (fun _ k => XS.iconst X67.here hx rfl (hb hby at_344) k) ?_
                        show own_Fin _ _ _ _ _ _ _ (T67.setTop (mkF m 345 #[.val (.int p0), .val (.int p1), .val (.int p2), .val (.int p3), .val (.int p4), .val (.int (p0 &&& (7 : Int32))), .val (.int z1), .val (.int z2), .val (.int z6), .val (.int z10), .val (.int (p1 &&& (15 : Int32))), .val (.int z11), .val (.int z12), .val (.int z13), .val (.ref b14), .val (.ref b32rb), .val (.int z34), .val (.int z41), .val (.int z49), .val (.int z55), .val (.int z64), .unset, .unset, .unset, .unset] [(.int (1 : Int32))]))
                        refine own_go (fun _ k => XS.goto X67.here hx rfl (pc0 := 345) (pc' := 349) rfl (hb hby at_345) (by decide) (by decide) k) ?_
                        show own_Fin _ _ _ _ _ _ _ (T67.setTop (mkF m 349 #[.val (.int p0), .val (.int p1), .val (.int p2), .val (.int p3), .val (.int p4), .val (.int (p0 &&& (7 : Int32))), .val (.int z1), .val (.int z2), .val (.int z6), .val (.int z10), .val (.int (p1 &&& (15 : Int32))), .val (.int z11), .val (.int z12), .val (.int z13), .val (.ref b14), .val (.ref b32rb), .val (.int z34), .val (.int z41), .val (.int z49), .val (.int z55), .val (.int z64), .unset, .unset, .unset, .unset] [(.int (1 : Int32))]))
                        have kj := hk66 T67 _ (own_mono X67 (by decide) (by decide)) N67 e67
                        simpa only [if_neg hc65, if_neg hc68, if_pos hc69, if_pos hc70] using kj
                      · refine own_go (fun _ k => XS.ifNo X67.here hx rfl (hb hby at_331) rfl ((if0 _ _).trans (feq hc70).1) k) ?_
                        show own_Fin _ _ _ _ _ _ _ (T67.setTop (mkF m 334 #[.val (.int p0), .val (.int p1), .val (.int p2), .val (.int p3), .val (.int p4), .val (.int (p0 &&& (7 : Int32))), .val (.int z1), .val (.int z2), .val (.int z6), .val (.int z10), .val (.int (p1 &&& (15 : Int32))), .val (.int z11), .val (.int z12), .val (.int z13), .val (.ref b14), .val (.ref b32rb), .val (.int z34), .val (.int z41), .val (.int z49), .val (.int z55), .val (.int z64), .unset, .unset, .unset, .unset] []))
                        refine own_go (fun _ k => XS.iload X67.here hx rfl (hb hby at_334) rfl k) ?_
                        show own_Fin _ _ _ _ _ _ _ (T67.setTop (mkF m 336 #[.val (.int p0), .val (.int p1), .val (.int p2), .val (.int p3), .val (.int p4), .val (.int (p0 &&& (7 : Int32))), .val (.int z1), .val (.int z2), .val (.int z6), .val (.int z10), .val (.int (p1 &&& (15 : Int32))), .val (.int z11), .val (.int z12), .val (.int z13), .val (.ref b14), .val (.ref b32rb), .val (.int z34), .val (.int z41), .val (.int z49), .val (.int z55), .val (.int z64), .unset, .unset, .unset, .unset] [(.int z55)]))
                        by_cases hc71 : z55 = (0 : Int32)
                        · refine own_go (fun _ k => XS.ifNo X67.here hx rfl (hb hby at_336) rfl ((if0 _ _).trans (teq hc71).2) k) ?_
                          show own_Fin _ _ _ _ _ _ _ (T67.setTop (mkF m 339 #[.val (.int p0), .val (.int p1), .val (.int p2), .val (.int p3), .val (.int p4), .val (.int (p0 &&& (7 : Int32))), .val (.int z1), .val (.int z2), .val (.int z6), .val (.int z10), .val (.int (p1 &&& (15 : Int32))), .val (.int z11), .val (.int z12), .val (.int z13), .val (.ref b14), .val (.ref b32rb), .val (.int z34), .val (.int z41), .val (.int z49), .val (.int z55), .val (.int z64), .unset, .unset, .unset, .unset] []))
                          refine own_go (fun _ k => XS.iload X67.here hx rfl (hb hby at_339) rfl k) ?_
                          show own_Fin _ _ _ _ _ _ _ (T67.setTop (mkF m 341 #[.val (.int p0), .val (.int p1), .val (.int p2), .val (.int p3), .val (.int p4), .val (.int (p0 &&& (7 : Int32))), .val (.int z1), .val (.int z2), .val (.int z6), .val (.int z10), .val (.int (p1 &&& (15 : Int32))), .val (.int z11), .val (.int z12), .val (.int z13), .val (.ref b14), .val (.ref b32rb), .val (.int z34), .val (.int z41), .val (.int z49), .val (.int z55), .val (.int z64), .unset, .unset, .unset, .unset] [(.int z64)]))
                          by_cases hc72 : z64 = (0 : Int32)
                          · refine own_go (fun _ k => XS.ifNo X67.here hx rfl (hb hby at_341) rfl ((if0 _ _).trans (teq hc72).2) k) ?_
                            show own_Fin _ _ _ _ _ _ _ (T67.setTop (mkF m 344 #[.val (.int p0), .val (.int p1), .val (.int p2), .val (.int p3), .val (.int p4), .val (.int (p0 &&& (7 : Int32))), .val (.int z1), .val (.int z2), .val (.int z6), .val (.int z10), .val (.int (p1 &&& (15 : Int32))), .val (.int z11), .val (.int z12), .val (.int z13), .val (.ref b14), .val (.ref b32rb), .val (.int z34), .val (.int z41), .val (.int z49), .val (.int z55), .val (.int z64), .unset, .unset, .unset, .unset] []))
                            refine own_go (fun _ k => XS.iconst X67.here hx rfl (hb hby at_344) k) ?_
                            show own_Fin _ _ _ _ _ _ _ (T67.setTop (mkF m 345 #[.val (.int p0), .val (.int p1), .val (.int p2), .val (.int p3), .val (.int p4), .val (.int (p0 &&& (7 : Int32))), .val (.int z1), .val (.int z2), .val (.int z6), .val (.int z10), .val (.int (p1 &&& (15 : Int32))), .val (.int z11), .val (.int z12), .val (.int z13), .val (.ref b14), .val (.ref b32rb), .val (.int z34), .val (.int z41), .val (.int z49), .val (.int z55), .val (.int z64), .unset, .unset, .unset, .unset] [(.int (1 : Int32))]))
                            refine own_go (fun _ k => XS.goto X67.here hx rfl (pc0 := 345) (pc' := 349) rfl (hb hby at_345) (by decide) (by decide) k) ?_
                            show own_Fin _ _ _ _ _ _ _ (T67.setTop (mkF m 349 #[.val (.int p0), .val (.int p1), .val (.int p2), .val (.int p3), .val (.int p4), .val (.int (p0 &&& (7 : Int32))), .val (.int z1), .val (.int z2), .val (.int z6), .val (.int z10), .val (.int (p1 &&& (15 : Int32))), .val (.int z11), .val (.int z12), .val (.int z13), .val (.ref b14), .val (.ref b32rb), .val (.int z34), .val (.int z41), .val (.int z49), .val (.int z55), .val (.int z64), .unset, .unset, .unset, .unset] [(.int (1 : Int32))]))
                            have kj := hk66 T67 _ (own_mono X67 (by decide) (by decide)) N67 e67
                            simpa only [if_neg hc65, if_neg hc68, if_pos hc69, if_neg hc70, if_pos hc71, if_pos hc72] using kj
                          · refine own_go (fun _ k => XS.ifYes X67.here hx rfl (pc0 := 341) (pc' := 348) rfl (hb hby at_341) rfl ((if0 _ _).trans (feq hc72).2) (by decide) (by decide) k) ?_
                            show own_Fin _ _ _ _ _ _ _ (T67.setTop (mkF m 348 #[.val (.int p0), .val (.int p1), .val (.int p2), .val (.int p3), .val (.int p4), .val (.int (p0 &&& (7 : Int32))), .val (.int z1), .val (.int z2), .val (.int z6), .val (.int z10), .val (.int (p1 &&& (15 : Int32))), .val (.int z11), .val (.int z12), .val (.int z13), .val (.ref b14), .val (.ref b32rb), .val (.int z34), .val (.int z41), .val (.int z49), .val (.int z55), .val (.int z64), .unset, .unset, .unset, .unset] []))
                            refine own_go (fun _ k => XS.iconst X67.here hx rfl (hb hby at_348) k) ?_
                            show own_Fin _ _ _ _ _ _ _ (T67.setTop (mkF m 349 #[.val (.int p0), .val (.int p1), .val (.int p2), .val (.int p3), .val (.int p4), .val (.int (p0 &&& (7 : Int32))), .val (.int z1), .val (.int z2), .val (.int z6), .val (.int z10), .val (.int (p1 &&& (15 : Int32))), .val (.int z11), .val (.int z12), .val (.int z13), .val (.ref b14), .val (.ref b32rb), .val (.int z34), .val (.int z41), .val (.int z49), .val (.int z55), .val (.int z64), .unset, .unset, .unset, .unset] [(.int (0 : Int32))]))
                            have kj := hk66 T67 _ (own_mono X67 (by decide) (by decide)) N67 e67
                            simpa only [if_neg hc65, if_neg hc68, if_pos hc69, if_neg hc70, if_pos hc71, if_neg hc72] using kj
                        · refine own_go (fun _ k => XS.ifYes X67.here hx rfl (pc0 := 336) (pc' := 348) rfl (hb hby at_336) rfl ((if0 _ _).trans (feq hc71).2) (by decide) (by decide) k) ?_
                          show own_Fin _ _ _ _ _ _ _ (T67.setTop (mkF m 348 #[.val (.int p0), .val (.int p1), .val (.int p2), .val (.int p3), .val (.int p4), .val (.int (p0 &&& (7 : Int32))), .val (.int z1), .val (.int z2), .val (.int z6), .val (.int z10), .val (.int (p1 &&& (15 : Int32))), .val (.int z11), .val (.int z12), .val (.int z13), .val (.ref b14), .val (.ref b32rb), .val (.int z34), .val (.int z41), .val (.int z49), .val (.int z55), .val (.int z64), .unset, .unset, .unset, .unset] []))
                          refine own_go (fun _ k => XS.iconst X67.here hx rfl (hb hby at_348) k) ?_
                          show own_Fin _ _ _ _ _ _ _ (T67.setTop (mkF m 349 #[.val (.int p0), .val (.int p1), .val (.int p2), .val (.int p3), .val (.int p4), .val (.int (p0 &&& (7 : Int32))), .val (.int z1), .val (.int z2), .val (.int z6), .val (.int z10), .val (.int (p1 &&& (15 : Int32))), .val (.int z11), .val (.int z12), .val (.int z13), .val (.ref b14), .val (.ref b32rb), .val (.int z34), .val (.int z41), .val (.int z49), .val (.int z55), .val (.int z64), .unset, .unset, .unset, .unset] [(.int (0 : Int32))]))
                          have kj := hk66 T67 _ (own_mono X67 (by decide) (by decide)) N67 e67
                          simpa only [if_neg hc65, if_neg hc68, if_pos hc69, if_neg hc70, if_neg hc71] using kj
                    · refine own_go (fun _ k => XS.ifYes X67.here hx rfl (pc0 := 326) (pc' := 348) rfl (hb hby at_326) rfl ((if0 _ _).trans (feq hc69).2) (by decide) (by decide) k) ?_
                      show own_Fin _ _ _ _ _ _ _ (T67.setTop (mkF m 348 #[.val (.int p0), .val (.int p1), .val (.int p2), .val (.int p3), .val (.int p4), .val (.int (p0 &&& (7 : Int32))), .val (.int z1), .val (.int z2), .val (.int z6), .val (.int z10), .val (.int (p1 &&& (15 : Int32))), .val (.int z11), .val (.int z12), .val (.int z13), .val (.ref b14), .val (.ref b32rb), .val (.int z34), .val (.int z41), .val (.int z49), .val (.int z55), .val (.int z64), .unset, .unset, .unset, .unset] []))
                      refine own_go (fun _ k => XS.iconst X67.here hx rfl (hb hby at_348) k) ?_
                      show own_Fin _ _ _ _ _ _ _ (T67.setTop (mkF m 349 #[.val (.int p0), .val (.int p1), .val (.int p2), .val (.int p3), .val (.int p4), .val (.int (p0 &&& (7 : Int32))), .val (.int z1), .val (.int z2), .val (.int z6), .val (.int z10), .val (.int (p1 &&& (15 : Int32))), .val (.int z11), .val (.int z12), .val (.int z13), .val (.ref b14), .val (.ref b32rb), .val (.int z34), .val (.int z41), .val (.int z49), .val (.int z55), .val (.int z64), .unset, .unset, .unset, .unset] [(.int (0 : Int32))]))
                      have kj := hk66 T67 _ (own_mono X67 (by decide) (by decide)) N67 e67
                      simpa only [if_neg hc65, if_neg hc68, if_neg hc69] using kj
              by_cases hc56 : z10 = (0 : Int32)
              · refine own_go (fun _ k => XS.ifYes X54.here hx rfl (pc0 := 270) (pc' := 304) rfl (hb hby at_270) rfl ((if0 _ _).trans (teq hc56).1) (by decide) (by decide) k) ?_
                show own_Fin _ _ _ _ _ _ _ (T54.setTop (mkF m 304 #[.val (.int p0), .val (.int p1), .val (.int p2), .val (.int p3), .val (.int p4), .val (.int (p0 &&& (7 : Int32))), .val (.int z1), .val (.int z2), .val (.int z6), .val (.int z10), .val (.int (p1 &&& (15 : Int32))), .val (.int z11), .val (.int z12), .val (.int z13), .val (.ref b14), .val (.ref b32rb), .val (.int z34), .val (.int z41), .val (.int z49), .val (.int z55), .unset, .unset, .unset, .unset, .unset] []))
                refine own_go (fun _ k => XS.iconst X54.here hx rfl (hb hby at_304) k) ?_
                show own_Fin _ _ _ _ _ _ _ (T54.setTop (mkF m 305 #[.val (.int p0), .val (.int p1), .val (.int p2), .val (.int p3), .val (.int p4), .val (.int (p0 &&& (7 : Int32))), .val (.int z1), .val (.int z2), .val (.int z6), .val (.int z10), .val (.int (p1 &&& (15 : Int32))), .val (.int z11), .val (.int z12), .val (.int z13), .val (.ref b14), .val (.ref b32rb), .val (.int z34), .val (.int z41), .val (.int z49), .val (.int z55), .unset, .unset, .unset, .unset, .unset] [(.int (0 : Int32))]))
                have kj := hk57 T54 _ (own_mono X54 (by decide) (by decide)) N54 e54
                simpa only [if_pos hc56] using kj
              · refine own_go (fun _ k => XS.ifNo X54.here hx rfl (hb hby at_270) rfl ((if0 _ _).trans (feq hc56).1) k) ?_
                show own_Fin _ _ _ _ _ _ _ (T54.setTop (mkF m 273 #[.val (.int p0), .val (.int p1), .val (.int p2), .val (.int p3), .val (.int p4), .val (.int (p0 &&& (7 : Int32))), .val (.int z1), .val (.int z2), .val (.int z6), .val (.int z10), .val (.int (p1 &&& (15 : Int32))), .val (.int z11), .val (.int z12), .val (.int z13), .val (.ref b14), .val (.ref b32rb), .val (.int z34), .val (.int z41), .val (.int z49), .val (.int z55), .unset, .unset, .unset, .unset, .unset] []))
                refine own_go (fun _ k => XS.iload X54.here hx rfl (hb hby at_273) rfl k) ?_
                refine own_go (fun _ k => XS.iload X54.here hx rfl (hb hby at_275) rfl k) ?_
                refine own_go (fun _ k => XS.iload X54.here hx rfl (hb hby at_277) rfl k) ?_
                obtain ⟨_, _, ⟨T58, L58, k58, n58⟩, -, X58, ⟨Lc58, hQ58, l58, y58, z58⟩, st58⟩ := Jvm.LawKit.callS X54 hx (y := (⟨"com/example/reachability/reachability/CandidateListFoundElementsPinLaw", "in", "(III)Z"⟩ : MethodName)) hown (mvT hZ (hw _ (List.mem_of_getElem? (i := 75) rfl))) (mvT hZ (hw _ (List.mem_of_getElem? (i := 76) rfl))) (mvT hZ (hw _ (List.mem_of_getElem? (i := 77) rfl))) (mvT hZ (hw _ (List.mem_of_getElem? (i := 78) rfl))) (by decide) (backOf (W := 0) (rm12 l Z a0 hw [] (p0 &&& (7 : Int32)) z12 z13 T32.heap n0 Z32) hZ (hw _ (List.mem_of_getElem? (i := 78) rfl)) (hw _ (List.mem_of_getElem? (i := 77) rfl)) (by decide) (by decide)) (g := (mkF m 279 #[.val (.int p0), .val (.int p1), .val (.int p2), .val (.int p3), .val (.int p4), .val (.int (p0 &&& (7 : Int32))), .val (.int z1), .val (.int z2), .val (.int z6), .val (.int z10), .val (.int (p1 &&& (15 : Int32))), .val (.int z11), .val (.int z12), .val (.int z13), .val (.ref b14), .val (.ref b32rb), .val (.int z34), .val (.int z41), .val (.int z49), .val (.int z55), .unset, .unset, .unset, .unset, .unset] [(.int z13), (.int z12), (.int (p0 &&& (7 : Int32)))])) rfl (by rw [hml]; rfl) (argsL := [(.int (p0 &&& (7 : Int32))), (.int z12), (.int z13)]) (rest := []) (lenOf own_pd573 rfl) rfl (by show 2 * 0 + _ ≤ _; exact Nat.le_of_eq rfl) (hb hby at_279) (fun _ _ => ⟨rfl, e54, (by decide : 9 + 0 ≤ _), (by decide : 43 + 0 ≤ _)⟩)
                dsimp only [Pt.U, Pt.locs, Pt.cells, Pt.slots] at X58 l58 y58 z58 st58 hQ58
                replace y58 : 9 = k58 := y58.symm
                replace z58 : 43 = n58 := z58.symm
                subst y58 z58
                obtain ⟨rfl, N58q, e58⟩ := hQ58
                have N58 : Fr n0 L58 := by rw [l58]; exact Fr.app N54 N58q
                refine own_go (fun tg k => st58 tg k) ?_
                show own_Fin _ _ _ _ _ _ _ (T58.setTop (mkF m 282 #[.val (.int p0), .val (.int p1), .val (.int p2), .val (.int p3), .val (.int p4), .val (.int (p0 &&& (7 : Int32))), .val (.int z1), .val (.int z2), .val (.int z6), .val (.int z10), .val (.int (p1 &&& (15 : Int32))), .val (.int z11), .val (.int z12), .val (.int z13), .val (.ref b14), .val (.ref b32rb), .val (.int z34), .val (.int z41), .val (.int z49), .val (.int z55), .unset, .unset, .unset, .unset, .unset] [(.int (own_f12 (p0 &&& (7 : Int32)) z12 z13))]))
                by_cases hc59 : (own_f12 (p0 &&& (7 : Int32)) z12 z13) = (0 : Int32)
                · refine own_go (fun _ k => XS.ifYes X58.here hx rfl (pc0 := 282) (pc' := 304) rfl (hb hby at_282) rfl ((if0 _ _).trans (teq hc59).1) (by decide) (by decide) k) ?_
                  show own_Fin _ _ _ _ _ _ _ (T58.setTop (mkF m 304 #[.val (.int p0), .val (.int p1), .val (.int p2), .val (.int p3), .val (.int p4), .val (.int (p0 &&& (7 : Int32))), .val (.int z1), .val (.int z2), .val (.int z6), .val (.int z10), .val (.int (p1 &&& (15 : Int32))), .val (.int z11), .val (.int z12), .val (.int z13), .val (.ref b14), .val (.ref b32rb), .val (.int z34), .val (.int z41), .val (.int z49), .val (.int z55), .unset, .unset, .unset, .unset, .unset] []))
                  refine own_go (fun _ k => XS.iconst X58.here hx rfl (hb hby at_304) k) ?_
                  show own_Fin _ _ _ _ _ _ _ (T58.setTop (mkF m 305 #[.val (.int p0), .val (.int p1), .val (.int p2), .val (.int p3), .val (.int p4), .val (.int (p0 &&& (7 : Int32))), .val (.int z1), .val (.int z2), .val (.int z6), .val (.int z10), .val (.int (p1 &&& (15 : Int32))), .val (.int z11), .val (.int z12), .val (.int z13), .val (.ref b14), .val (.ref b32rb), .val (.int z34), .val (.int z41), .val (.int z49), .val (.int z55), .unset, .unset, .unset, .unset, .unset] [(.int (0 : Int32))]))
                  have kj := hk57 T58 _ (own_mono X58 (by decide) (by decide)) N58 e58
                  simpa only [if_neg hc56, if_pos hc59] using kj
                · refine own_go (fun _ k => XS.ifNo X58.here hx rfl (hb hby at_282) rfl ((if0 _ _).trans (feq hc59).1) k) ?_
                  show own_Fin _ _ _ _ _ _ _ (T58.setTop (mkF m 285 #[.val (.int p0), .val (.int p1), .val (.int p2), .val (.int p3), .val (.int p4), .val (.int (p0 &&& (7 : Int32))), .val (.int z1), .val (.int z2), .val (.int z6), .val (.int z10), .val (.int (p1 &&& (15 : Int32))), .val (.int z11), .val (.int z12), .val (.int z13), .val (.ref b14), .val (.ref b32rb), .val (.int z34), .val (.int z41), .val (.int z49), .val (.int z55), .unset, .unset, .unset, .unset, .unset] []))
                  refine own_go (fun _ k => XS.iload X58.here hx rfl (hb hby at_285) rfl k) ?_
                  show own_Fin _ _ _ _ _ _ _ (T58.setTop (mkF m 287 #[.val (.int p0), .val (.int p1), .val (.int p2), .val (.int p3), .val (.int p4), .val (.int (p0 &&& (7 : Int32))), .val (.int z1), .val (.int z2), .val (.int z6), .val (.int z10), .val (.int (p1 &&& (15 : Int32))), .val (.int z11), .val (.int z12), .val (.int z13), .val (.ref b14), .val (.ref b32rb), .val (.int z34), .val (.int z41), .val (.int z49), .val (.int z55), .unset, .unset, .unset, .unset, .unset] [(.int z34)]))
                  by_cases hc60 : z34 = (0 : Int32)
                  · refine own_go (fun _ k => XS.ifNo X58.here hx rfl (hb hby at_287) rfl ((if0 _ _).trans (teq hc60).2) k) ?_
                    show own_Fin _ _ _ _ _ _ _ (T58.setTop (mkF m 290 #[.val (.int p0), .val (.int p1), .val (.int p2), .val (.int p3), .val (.int p4), .val (.int (p0 &&& (7 : Int32))), .val (.int z1), .val (.int z2), .val (.int z6), .val (.int z10), .val (.int (p1 &&& (15 : Int32))), .val (.int z11), .val (.int z12), .val (.int z13), .val (.ref b14), .val (.ref b32rb), .val (.int z34), .val (.int z41), .val (.int z49), .val (.int z55), .unset, .unset, .unset, .unset, .unset] []))
                    refine own_go (fun _ k => XS.iload X58.here hx rfl (hb hby at_290) rfl k) ?_
                    show own_Fin _ _ _ _ _ _ _ (T58.setTop (mkF m 292 #[.val (.int p0), .val (.int p1), .val (.int p2), .val (.int p3), .val (.int p4), .val (.int (p0 &&& (7 : Int32))), .val (.int z1), .val (.int z2), .val (.int z6), .val (.int z10), .val (.int (p1 &&& (15 : Int32))), .val (.int z11), .val (.int z12), .val (.int z13), .val (.ref b14), .val (.ref b32rb), .val (.int z34), .val (.int z41), .val (.int z49), .val (.int z55), .unset, .unset, .unset, .unset, .unset] [(.int z6)]))
                    by_cases hc61 : z6 = (0 : Int32)
                    · refine own_go (fun _ k => XS.ifYes X58.here hx rfl (pc0 := 292) (pc' := 300) rfl (hb hby at_292) rfl ((if0 _ _).trans (teq hc61).1) (by decide) (by decide) k) ?_
                      show own_Fin _ _ _ _ _ _ _ (T58.setTop (mkF m 300 #[.val (.int p0), .val (.int p1), .val (.int p2), .val (.int p3), .val (.int p4), .val (.int (p0 &&& (7 : Int32))), .val (.int z1), .val (.int z2), .val (.int z6), .val (.int z10), .val (.int (p1 &&& (15 : Int32))), .val (.int z11), .val (.int z12), .val (.int z13), .val (.ref b14), .val (.ref b32rb), .val (.int z34), .val (.int z41), .val (.int z49), .val (.int z55), .unset, .unset, .unset, .unset, .unset] []))
                      refine own_go (fun _ k => XS.iconst X58.here hx rfl (hb hby at_300) k) ?_
                      show own_Fin _ _ _ _ _ _ _ (T58.setTop (mkF m 301 #[.val (.int p0), .val (.int p1), .val (.int p2), .val (.int p3), .val (.int p4), .val (.int (p0 &&& (7 : Int32))), .val (.int z1), .val (.int z2), .val (.int z6), .val (.int z10), .val (.int (p1 &&& (15 : Int32))), .val (.int z11), .val (.int z12), .val (.int z13), .val (.ref b14), .val (.ref b32rb), .val (.int z34), .val (.int z41), .val (.int z49), .val (.int z55), .unset, .unset, .unset, .unset, .unset] [(.int (1 : Int32))]))
                      refine own_go (fun _ k => XS.goto X58.here hx rfl (pc0 := 301) (pc' := 305) rfl (hb hby at_301) (by decide) (by decide) k) ?_
                      show own_Fin _ _ _ _ _ _ _ (T58.setTop (mkF m 305 #[.val (.int p0), .val (.int p1), .val (.int p2), .val (.int p3), .val (.int p4), .val (.int (p0 &&& (7 : Int32))), .val (.int z1), .val (.int z2), .val (.int z6), .val (.int z10), .val (.int (p1 &&& (15 : Int32))), .val (.int z11), .val (.int z12), .val (.int z13), .val (.ref b14), .val (.ref b32rb), .val (.int z34), .val (.int z41), .val (.int z49), .val (.int z55), .unset, .unset, .unset, .unset, .unset] [(.int (1 : Int32))]))
                      have kj := hk57 T58 _ (own_mono X58 (by decide) (by decide)) N58 e58
                      simpa only [if_neg hc56, if_neg hc59, if_pos hc60, if_pos hc61] using kj
                    · refine own_go (fun _ k => XS.ifNo X58.here hx rfl (hb hby at_292) rfl ((if0 _ _).trans (feq hc61).1) k) ?_
                      show own_Fin _ _ _ _ _ _ _ (T58.setTop (mkF m 295 #[.val (.int p0), .val (.int p1), .val (.int p2), .val (.int p3), .val (.int p4), .val (.int (p0 &&& (7 : Int32))), .val (.int z1), .val (.int z2), .val (.int z6), .val (.int z10), .val (.int (p1 &&& (15 : Int32))), .val (.int z11), .val (.int z12), .val (.int z13), .val (.ref b14), .val (.ref b32rb), .val (.int z34), .val (.int z41), .val (.int z49), .val (.int z55), .unset, .unset, .unset, .unset, .unset] []))
                      refine own_go (fun _ k => XS.iload X58.here hx rfl (hb hby at_295) rfl k) ?_
                      show own_Fin _ _ _ _ _ _ _ (T58.setTop (mkF m 297 #[.val (.int p0), .val (.int p1), .val (.int p2), .val (.int p3), .val (.int p4), .val (.int (p0 &&& (7 : Int32))), .val (.int z1), .val (.int z2), .val (.int z6), .val (.int z10), .val (.int (p1 &&& (15 : Int32))), .val (.int z11), .val (.int z12), .val (.int z13), .val (.ref b14), .val (.ref b32rb), .val (.int z34), .val (.int z41), .val (.int z49), .val (.int z55), .unset, .unset, .unset, .unset, .unset] [(.int z55)]))
                      by_cases hc62 : z55 = (0 : Int32)
                      · refine own_go (fun _ k => XS.ifNo X58.here hx rfl (hb hby at_297) rfl ((if0 _ _).trans (teq hc62).2) k) ?_
                        show own_Fin _ _ _ _ _ _ _ (T58.setTop (mkF m 300 #[.val (.int p0), .val (.int p1), .val (.int p2), .val (.int p3), .val (.int p4), .val (.int (p0 &&& (7 : Int32))), .val (.int z1), .val (.int z2), .val (.int z6), .val (.int z10), .val (.int (p1 &&& (15 : Int32))), .val (.int z11), .val (.int z12), .val (.int z13), .val (.ref b14), .val (.ref b32rb), .val (.int z34), .val (.int z41), .val (.int z49), .val (.int z55), .unset, .unset, .unset, .unset, .unset] []))
                        refine own_go (fun _ k => XS.iconst X58.here hx rfl (hb hby at_300) k) ?_
                        show own_Fin _ _ _ _ _ _ _ (T58.setTop (mkF m 301 #[.val (.int p0), .val (.int p1), .val (.int p2), .val (.int p3), .val (.int p4), .val (.int (p0 &&& (7 : Int32))), .val (.int z1), .val (.int z2), .val (.int z6), .val (.int z10), .val (.int (p1 &&& (15 : Int32))), .val (.int z11), .val (.int z12), .val (.int z13), .val (.ref b14), .val (.ref b32rb), .val (.int z34), .val (.int z41), .val (.int z49), .val (.int z55), .unset, .unset, .unset, .unset, .unset] [(.int (1 : Int32))]))
                        refine own_go (fun _ k => XS.goto X58.here hx rfl (pc0 := 301) (pc' := 305) rfl (hb hby at_301) (by decide) (by decide) k) ?_
                        show own_Fin _ _ _ _ _ _ _ (T58.setTop (mkF m 305 #[.val (.int p0), .val (.int p1), .val (.int p2), .val (.int p3), .val (.int p4), .val (.int (p0 &&& (7 : Int32))), .val (.int z1), .val (.int z2), .val (.int z6), .val (.int z10), .val (.int (p1 &&& (15 : Int32))), .val (.int z11), .val (.int z12), .val (.int z13), .val (.ref b14), .val (.ref b32rb), .val (.int z34), .val (.int z41), .val (.int z49), .val (.int z55), .unset, .unset, .unset, .unset, .unset] [(.int (1 : Int32))]))
                        have kj := hk57 T58 _ (own_mono X58 (by decide) (by decide)) N58 e58
                        simpa only [if_neg hc56, if_neg hc59, if_pos hc60, if_neg hc61, if_pos hc62] using kj
                      · refine own_go (fun _ k => XS.ifYes X58.here hx rfl (pc0 := 297) (pc' := 304) rfl (hb hby at_297) rfl ((if0 _ _).trans (feq hc62).2) (by decide) (by decide) k) ?_
                        show own_Fin _ _ _ _ _ _ _ (T58.setTop (mkF m 304 #[.val (.int p0), .val (.int p1), .val (.int p2), .val (.int p3), .val (.int p4), .val (.int (p0 &&& (7 : Int32))), .val (.int z1), .val (.int z2), .val (.int z6), .val (.int z10), .val (.int (p1 &&& (15 : Int32))), .val (.int z11), .val (.int z12), .val (.int z13), .val (.ref b14), .val (.ref b32rb), .val (.int z34), .val (.int z41), .val (.int z49), .val (.int z55), .unset, .unset, .unset, .unset, .unset] []))
                        refine own_go (fun _ k => XS.iconst X58.here hx rfl (hb hby at_304) k) ?_
                        show own_Fin _ _ _ _ _ _ _ (T58.setTop (mkF m 305 #[.val (.int p0), .val (.int p1), .val (.int p2), .val (.int p3), .val (.int p4), .val (.int (p0 &&& (7 : Int32))), .val (.int z1), .val (.int z2), .val (.int z6), .val (.int z10), .val (.int (p1 &&& (15 : Int32))), .val (.int z11), .val (.int z12), .val (.int z13), .val (.ref b14), .val (.ref b32rb), .val (.int z34), .val (.int z41), .val (.int z49), .val (.int z55), .unset, .unset, .unset, .unset, .unset] [(.int (0 : Int32))]))
                        have kj := hk57 T58 _ (own_mono X58 (by decide) (by decide)) N58 e58
                        simpa only [if_neg hc56, if_neg hc59, if_pos hc60, if_neg hc61, if_neg hc62] using kj
                  · refine own_go (fun _ k => XS.ifYes X58.here hx rfl (pc0 := 287) (pc' := 304) rfl (hb hby at_287) rfl ((if0 _ _).trans (feq hc60).2) (by decide) (by decide) k) ?_
                    show own_Fin _ _ _ _ _ _ _ (T58.setTop (mkF m 304 #[.val (.int p0), .val (.int p1), .val (.int p2), .val (.int p3), .val (.int p4), .val (.int (p0 &&& (7 : Int32))), .val (.int z1), .val (.int z2), .val (.int z6), .val (.int z10), .val (.int (p1 &&& (15 : Int32))), .val (.int z11), .val (.int z12), .val (.int z13), .val (.ref b14), .val (.ref b32rb), .val (.int z34), .val (.int z41), .val (.int z49), .val (.int z55), .unset, .unset, .unset, .unset, .unset] []))
                    refine own_go (fun _ k => XS.iconst X58.here hx rfl (hb hby at_304) k) ?_
                    show own_Fin _ _ _ _ _ _ _ (T58.setTop (mkF m 305 #[.val (.int p0), .val (.int p1), .val (.int p2), .val (.int p3), .val (.int p4), .val (.int (p0 &&& (7 : Int32))), .val (.int z1), .val (.int z2), .val (.int z6), .val (.int z10), .val (.int (p1 &&& (15 : Int32))), .val (.int z11), .val (.int z12), .val (.int z13), .val (.ref b14), .val (.ref b32rb), .val (.int z34), .val (.int z41), .val (.int z49), .val (.int z55), .unset, .unset, .unset, .unset, .unset] [(.int (0 : Int32))]))
                    have kj := hk57 T58 _ (own_mono X58 (by decide) (by decide)) N58 e58
                    simpa only [if_neg hc56, if_neg hc59, if_neg hc60] using kj
            by_cases hc50 : z34 = (0 : Int32)
            · refine own_go (fun _ k => XS.ifNo X48.here hx rfl (hb hby at_248) rfl ((if0 _ _).trans (teq hc50).2) k) ?_
              show own_Fin _ _ _ _ _ _ _ (T48.setTop (mkF m 251 #[.val (.int p0), .val (.int p1), .val (.int p2), .val (.int p3), .val (.int p4), .val (.int (p0 &&& (7 : Int32))), .val (.int z1), .val (.int z2), .val (.int z6), .val (.int z10), .val (.int (p1 &&& (15 : Int32))), .val (.int z11), .val (.int z12), .val (.int z13), .val (.ref b14), .val (.ref b32rb), .val (.int z34), .val (.int z41), .val (.int z49), .unset, .unset, .unset, .unset, .unset, .unset] []))
              refine own_go (fun _ k => XS.iload X48.here hx rfl (hb hby at_251) rfl k) ?_
              show own_Fin _ _ _ _ _ _ _ (T48.setTop (mkF m 253 #[.val (.int p0), .val (.int p1), .val (.int p2), .val (.int p3), .val (.int p4), .val (.int (p0 &&& (7 : Int32))), .val (.int z1), .val (.int z2), .val (.int z6), .val (.int z10), .val (.int (p1 &&& (15 : Int32))), .val (.int z11), .val (.int z12), .val (.int z13), .val (.ref b14), .val (.ref b32rb), .val (.int z34), .val (.int z41), .val (.int z49), .unset, .unset, .unset, .unset, .unset, .unset] [(.int z41)]))
              by_cases hc52 : z41 = (0 : Int32)
              · refine own_go (fun _ k => XS.ifNo X48.here hx rfl (hb hby at_253) rfl ((if0 _ _).trans (teq hc52).2) k) ?_
                show own_Fin _ _ _ _ _ _ _ (T48.setTop (mkF m 256 #[.val (.int p0), .val (.int p1), .val (.int p2), .val (.int p3), .val (.int p4), .val (.int (p0 &&& (7 : Int32))), .val (.int z1), .val (.int z2), .val (.int z6), .val (.int z10), .val (.int (p1 &&& (15 : Int32))), .val (.int z11), .val (.int z12), .val (.int z13), .val (.ref b14), .val (.ref b32rb), .val (.int z34), .val (.int z41), .val (.int z49), .unset, .unset, .unset, .unset, .unset, .unset] []))
                refine own_go (fun _ k => XS.iload X48.here hx rfl (hb hby at_256) rfl k) ?_
                show own_Fin _ _ _ _ _ _ _ (T48.setTop (mkF m 258 #[.val (.int p0), .val (.int p1), .val (.int p2), .val (.int p3), .val (.int p4), .val (.int (p0 &&& (7 : Int32))), .val (.int z1), .val (.int z2), .val (.int z6), .val (.int z10), .val (.int (p1 &&& (15 : Int32))), .val (.int z11), .val (.int z12), .val (.int z13), .val (.ref b14), .val (.ref b32rb), .val (.int z34), .val (.int z41), .val (.int z49), .unset, .unset, .unset, .unset, .unset, .unset] [(.int z49)]))
                by_cases hc53 : z49 = (0 : Int32)
                · refine own_go (fun _ k => XS.ifYes X48.here hx rfl (pc0 := 258) (pc' := 265) rfl (hb hby at_258) rfl ((if0 _ _).trans (teq hc53).1) (by decide) (by decide) k) ?_
                  show own_Fin _ _ _ _ _ _ _ (T48.setTop (mkF m 265 #[.val (.int p0), .val (.int p1), .val (.int p2), .val (.int p3), .val (.int p4), .val (.int (p0 &&& (7 : Int32))), .val (.int z1), .val (.int z2), .val (.int z6), .val (.int z10), .val (.int (p1 &&& (15 : Int32))), .val (.int z11), .val (.int z12), .val (.int z13), .val (.ref b14), .val (.ref b32rb), .val (.int z34), .val (.int z41), .val (.int z49), .unset, .unset, .unset, .unset, .unset, .unset] []))
                  refine own_go (fun _ k => XS.iconst X48.here hx rfl (hb hby at_265) k) ?_
                  show own_Fin _ _ _ _ _ _ _ (T48.setTop (mkF m 266 #[.val (.int p0), .val (.int p1), .val (.int p2), .val (.int p3), .val (.int p4), .val (.int (p0 &&& (7 : Int32))), .val (.int z1), .val (.int z2), .val (.int z6), .val (.int z10), .val (.int (p1 &&& (15 : Int32))), .val (.int z11), .val (.int z12), .val (.int z13), .val (.ref b14), .val (.ref b32rb), .val (.int z34), .val (.int z41), .val (.int z49), .unset, .unset, .unset, .unset, .unset, .unset] [(.int (0 : Int32))]))
                  have kj := hk51 T48 _ (own_mono X48 (by decide) (by decide)) N48 e48
                  simpa only [if_pos hc50, if_pos hc52, if_pos hc53] using kj
                · refine own_go (fun _ k => XS.ifNo X48.here hx rfl (hb hby at_258) rfl ((if0 _ _).trans (feq hc53).1) k) ?_
                  show own_Fin _ _ _ _ _ _ _ (T48.setTop (mkF m 261 #[.val (.int p0), .val (.int p1), .val (.int p2), .val (.int p3), .val (.int p4), .val (.int (p0 &&& (7 : Int32))), .val (.int z1), .val (.int z2), .val (.int z6), .val (.int z10), .val (.int (p1 &&& (15 : Int32))), .val (.int z11), .val (.int z12), .val (.int z13), .val (.ref b14), .val (.ref b32rb), .val (.int z34), .val (.int z41), .val (.int z49), .unset, .unset, .unset, .unset, .unset, .unset] []))
                  refine own_go (fun _ k => XS.iconst X48.here hx rfl (hb hby at_261) k) ?_
                  show own_Fin _ _ _ _ _ _ _ (T48.setTop (mkF m 262 #[.val (.int p0), .val (.int p1), .val (.int p2), .val (.int p3), .val (.int p4), .val (.int (p0 &&& (7 : Int32))), .val (.int z1), .val (.int z2), .val (.int z6), .val (.int z10), .val (.int (p1 &&& (15 : Int32))), .val (.int z11), .val (.int z12), .val (.int z13), .val (.ref b14), .val (.ref b32rb), .val (.int z34), .val (.int z41), .val (.int z49), .unset, .unset, .unset, .unset, .unset, .unset] [(.int (1 : Int32))]))
                  refine own_go (fun _ k => XS.goto X48.here hx rfl (pc0 := 262) (pc' := 266) rfl (hb hby at_262) (by decide) (by decide) k) ?_
                  show own_Fin _ _ _ _ _ _ _ (T48.setTop (mkF m 266 #[.val (.int p0), .val (.int p1), .val (.int p2), .val (.int p3), .val (.int p4), .val (.int (p0 &&& (7 : Int32))), .val (.int z1), .val (.int z2), .val (.int z6), .val (.int z10), .val (.int (p1 &&& (15 : Int32))), .val (.int z11), .val (.int z12), .val (.int z13), .val (.ref b14), .val (.ref b32rb), .val (.int z34), .val (.int z41), .val (.int z49), .unset, .unset, .unset, .unset, .unset, .unset] [(.int (1 : Int32))]))
                  have kj := hk51 T48 _ (own_mono X48 (by decide) (by decide)) N48 e48
                  simpa only [if_pos hc50, if_pos hc52, if_neg hc53] using kj
              · refine own_go (fun _ k => XS.ifYes X48.here hx rfl (pc0 := 253) (pc' := 261) rfl (hb hby at_253) rfl ((if0 _ _).trans (feq hc52).2) (by decide) (by decide) k) ?_
                show own_Fin _ _ _ _ _ _ _ (T48.setTop (mkF m 261 #[.val (.int p0), .val (.int p1), .val (.int p2), .val (.int p3), .val (.int p4), .val (.int (p0 &&& (7 : Int32))), .val (.int z1), .val (.int z2), .val (.int z6), .val (.int z10), .val (.int (p1 &&& (15 : Int32))), .val (.int z11), .val (.int z12), .val (.int z13), .val (.ref b14), .val (.ref b32rb), .val (.int z34), .val (.int z41), .val (.int z49), .unset, .unset, .unset, .unset, .unset, .unset] []))
                refine own_go (fun _ k => XS.iconst X48.here hx rfl (hb hby at_261) k) ?_
                show own_Fin _ _ _ _ _ _ _ (T48.setTop (mkF m 262 #[.val (.int p0), .val (.int p1), .val (.int p2), .val (.int p3), .val (.int p4), .val (.int (p0 &&& (7 : Int32))), .val (.int z1), .val (.int z2), .val (.int z6), .val (.int z10), .val (.int (p1 &&& (15 : Int32))), .val (.int z11), .val (.int z12), .val (.int z13), .val (.ref b14), .val (.ref b32rb), .val (.int z34), .val (.int z41), .val (.int z49), .unset, .unset, .unset, .unset, .unset, .unset] [(.int (1 : Int32))]))
                refine own_go (fun _ k => XS.goto X48.here hx rfl (pc0 := 262) (pc' := 266) rfl (hb hby at_262) (by decide) (by decide) k) ?_
                show own_Fin _ _ _ _ _ _ _ (T48.setTop (mkF m 266 #[.val (.int p0), .val (.int p1), .val (.int p2), .val (.int p3), .val (.int p4), .val (.int (p0 &&& (7 : Int32))), .val (.int z1), .val (.int z2), .val (.int z6), .val (.int z10), .val (.int (p1 &&& (15 : Int32))), .val (.int z11), .val (.int z12), .val (.int z13), .val (.ref b14), .val (.ref b32rb), .val (.int z34), .val (.int z41), .val (.int z49), .unset, .unset, .unset, .unset, .unset, .unset] [(.int (1 : Int32))]))
                have kj := hk51 T48 _ (own_mono X48 (by decide) (by decide)) N48 e48
                simpa only [if_pos hc50, if_neg hc52] using kj
            · refine own_go (fun _ k => XS.ifYes X48.here hx rfl (pc0 := 248) (pc' := 261) rfl (hb hby at_248) rfl ((if0 _ _).trans (feq hc50).2) (by decide) (by decide) k) ?_
              show own_Fin _ _ _ _ _ _ _ (T48.setTop (mkF m 261 #[.val (.int p0), .val (.int p1), .val (.int p2), .val (.int p3), .val (.int p4), .val (.int (p0 &&& (7 : Int32))), .val (.int z1), .val (.int z2), .val (.int z6), .val (.int z10), .val (.int (p1 &&& (15 : Int32))), .val (.int z11), .val (.int z12), .val (.int z13), .val (.ref b14), .val (.ref b32rb), .val (.int z34), .val (.int z41), .val (.int z49), .unset, .unset, .unset, .unset, .unset, .unset] []))
              refine own_go (fun _ k => XS.iconst X48.here hx rfl (hb hby at_261) k) ?_
              show own_Fin _ _ _ _ _ _ _ (T48.setTop (mkF m 262 #[.val (.int p0), .val (.int p1), .val (.int p2), .val (.int p3), .val (.int p4), .val (.int (p0 &&& (7 : Int32))), .val (.int z1), .val (.int z2), .val (.int z6), .val (.int z10), .val (.int (p1 &&& (15 : Int32))), .val (.int z11), .val (.int z12), .val (.int z13), .val (.ref b14), .val (.ref b32rb), .val (.int z34), .val (.int z41), .val (.int z49), .unset, .unset, .unset, .unset, .unset, .unset] [(.int (1 : Int32))]))
              refine own_go (fun _ k => XS.goto X48.here hx rfl (pc0 := 262) (pc' := 266) rfl (hb hby at_262) (by decide) (by decide) k) ?_
              show own_Fin _ _ _ _ _ _ _ (T48.setTop (mkF m 266 #[.val (.int p0), .val (.int p1), .val (.int p2), .val (.int p3), .val (.int p4), .val (.int (p0 &&& (7 : Int32))), .val (.int z1), .val (.int z2), .val (.int z6), .val (.int z10), .val (.int (p1 &&& (15 : Int32))), .val (.int z11), .val (.int z12), .val (.int z13), .val (.ref b14), .val (.ref b32rb), .val (.int z34), .val (.int z41), .val (.int z49), .unset, .unset, .unset, .unset, .unset, .unset] [(.int (1 : Int32))]))
              have kj := hk51 T48 _ (own_mono X48 (by decide) (by decide)) N48 e48
              simpa only [if_neg hc50] using kj
          by_cases hc43 : (own_f12 z2 (p1 &&& (15 : Int32)) z11) = (0 : Int32)
          · refine own_go (fun _ k => XS.ifYes X42.here hx rfl (pc0 := 221) (pc' := 243) rfl (hb hby at_221) rfl ((if0 _ _).trans (teq hc43).1) (by decide) (by decide) k) ?_
            show own_Fin _ _ _ _ _ _ _ (T42.setTop (mkF m 243 #[.val (.int p0), .val (.int p1), .val (.int p2), .val (.int p3), .val (.int p4), .val (.int (p0 &&& (7 : Int32))), .val (.int z1), .val (.int z2), .val (.int z6), .val (.int z10), .val (.int (p1 &&& (15 : Int32))), .val (.int z11), .val (.int z12), .val (.int z13), .val (.ref b14), .val (.ref b32rb), .val (.int z34), .val (.int z41), .unset, .unset, .unset, .unset, .unset, .unset, .unset] []))
            refine own_go (fun _ k => XS.iconst X42.here hx rfl (hb hby at_243) k) ?_
            show own_Fin _ _ _ _ _ _ _ (T42.setTop (mkF m 244 #[.val (.int p0), .val (.int p1), .val (.int p2), .val (.int p3), .val (.int p4), .val (.int (p0 &&& (7 : Int32))), .val (.int z1), .val (.int z2), .val (.int z6), .val (.int z10), .val (.int (p1 &&& (15 : Int32))), .val (.int z11), .val (.int z12), .val (.int z13), .val (.ref b14), .val (.ref b32rb), .val (.int z34), .val (.int z41), .unset, .unset, .unset, .unset, .unset, .unset, .unset] [(.int (0 : Int32))]))
            have kj := hk44 T42 _ (own_mono X42 (by decide) (by decide)) N42 e42
            simpa only [if_pos hc43] using kj
          · refine own_go (fun _ k => XS.ifNo X42.here hx rfl (hb hby at_221) rfl ((if0 _ _).trans (feq hc43).1) k) ?_
            show own_Fin _ _ _ _ _ _ _ (T42.setTop (mkF m 224 #[.val (.int p0), .val (.int p1), .val (.int p2), .val (.int p3), .val (.int p4), .val (.int (p0 &&& (7 : Int32))), .val (.int z1), .val (.int z2), .val (.int z6), .val (.int z10), .val (.int (p1 &&& (15 : Int32))), .val (.int z11), .val (.int z12), .val (.int z13), .val (.ref b14), .val (.ref b32rb), .val (.int z34), .val (.int z41), .unset, .unset, .unset, .unset, .unset, .unset, .unset] []))
            refine own_go (fun _ k => XS.iload X42.here hx rfl (hb hby at_224) rfl k) ?_
            show own_Fin _ _ _ _ _ _ _ (T42.setTop (mkF m 226 #[.val (.int p0), .val (.int p1), .val (.int p2), .val (.int p3), .val (.int p4), .val (.int (p0 &&& (7 : Int32))), .val (.int z1), .val (.int z2), .val (.int z6), .val (.int z10), .val (.int (p1 &&& (15 : Int32))), .val (.int z11), .val (.int z12), .val (.int z13), .val (.ref b14), .val (.ref b32rb), .val (.int z34), .val (.int z41), .unset, .unset, .unset, .unset, .unset, .unset, .unset] [(.int z6)]))
            by_cases hc45 : z6 = (0 : Int32)
            · refine own_go (fun _ k => XS.ifYes X42.here hx rfl (pc0 := 226) (pc' := 239) rfl (hb hby at_226) rfl ((if0 _ _).trans (teq hc45).1) (by decide) (by decide) k) ?_
              show own_Fin _ _ _ _ _ _ _ (T42.setTop (mkF m 239 #[.val (.int p0), .val (.int p1), .val (.int p2), .val (.int p3), .val (.int p4), .val (.int (p0 &&& (7 : Int32))), .val (.int z1), .val (.int z2), .val (.int z6), .val (.int z10), .val (.int (p1 &&& (15 : Int32))), .val (.int z11), .val (.int z12), .val (.int z13), .val (.ref b14), .val (.ref b32rb), .val (.int z34), .val (.int z41), .unset, .unset, .unset, .unset, .unset, .unset, .unset] []))
              refine own_go (fun _ k => XS.iconst X42.here hx rfl (hb hby at_239) k) ?_
              show own_Fin _ _ _ _ _ _ _ (T42.setTop (mkF m 240 #[.val (.int p0), .val (.int p1), .val (.int p2), .val (.int p3), .val (.int p4), .val (.int (p0 &&& (7 : Int32))), .val (.int z1), .val (.int z2), .val (.int z6), .val (.int z10), .val (.int (p1 &&& (15 : Int32))), .val (.int z11), .val (.int z12), .val (.int z13), .val (.ref b14), .val (.ref b32rb), .val (.int z34), .val (.int z41), .unset, .unset, .unset, .unset, .unset, .unset, .unset] [(.int (1 : Int32))]))
              refine own_go (fun _ k => XS.goto X42.here hx rfl (pc0 := 240) (pc' := 244) rfl (hb hby at_240) (by decide) (by decide) k) ?_
              show own_Fin _ _ _ _ _ _ _ (T42.setTop (mkF m 244 #[.val (.int p0), .val (.int p1), .val (.int p2), .val (.int p3), .val (.int p4), .val (.int (p0 &&& (7 : Int32))), .val (.int z1), .val (.int z2), .val (.int z6), .val (.int z10), .val (.int (p1 &&& (15 : Int32))), .val (.int z11), .val (.int z12), .val (.int z13), .val (.ref b14), .val (.ref b32rb), .val (.int z34), .val (.int z41), .unset, .unset, .unset, .unset, .unset, .unset, .unset] [(.int (1 : Int32))]))
              have kj := hk44 T42 _ (own_mono X42 (by decide) (by decide)) N42 e42
              simpa only [if_neg hc43, if_pos hc45] using kj
            · refine own_go (fun _ k => XS.ifNo X42.here hx rfl (hb hby at_226) rfl ((if0 _ _).trans (feq hc45).1) k) ?_
              show own_Fin _ _ _ _ _ _ _ (T42.setTop (mkF m 229 #[.val (.int p0), .val (.int p1), .val (.int p2), .val (.int p3), .val (.int p4), .val (.int (p0 &&& (7 : Int32))), .val (.int z1), .val (.int z2), .val (.int z6), .val (.int z10), .val (.int (p1 &&& (15 : Int32))), .val (.int z11), .val (.int z12), .val (.int z13), .val (.ref b14), .val (.ref b32rb), .val (.int z34), .val (.int z41), .unset, .unset, .unset, .unset, .unset, .unset, .unset] []))
              refine own_go (fun _ k => XS.iload X42.here hx rfl (hb hby at_229) rfl k) ?_
              show own_Fin _ _ _ _ _ _ _ (T42.setTop (mkF m 231 #[.val (.int p0), .val (.int p1), .val (.int p2), .val (.int p3), .val (.int p4), .val (.int (p0 &&& (7 : Int32))), .val (.int z1), .val (.int z2), .val (.int z6), .val (.int z10), .val (.int (p1 &&& (15 : Int32))), .val (.int z11), .val (.int z12), .val (.int z13), .val (.ref b14), .val (.ref b32rb), .val (.int z34), .val (.int z41), .unset, .unset, .unset, .unset, .unset, .unset, .unset] [(.int z34)]))
              by_cases hc46 : z34 = (0 : Int32)
              · refine own_go (fun _ k => XS.ifNo X42.here hx rfl (hb hby at_231) rfl ((if0 _ _).trans (teq hc46).2) k) ?_
                show own_Fin _ _ _ _ _ _ _ (T42.setTop (mkF m 234 #[.val (.int p0), .val (.int p1), .val (.int p2), .val (.int p3), .val (.int p4), .val (.int (p0 &&& (7 : Int32))), .val (.int z1), .val (.int z2), .val (.int z6), .val (.int z10), .val (.int (p1 &&& (15 : Int32))), .val (.int z11), .val (.int z12), .val (.int z13), .val (.ref b14), .val (.ref b32rb), .val (.int z34), .val (.int z41), .unset, .unset, .unset, .unset, .unset, .unset, .unset] []))
                refine own_go (fun _ k => XS.iload X42.here hx rfl (hb hby at_234) rfl k) ?_
                show own_Fin _ _ _ _ _ _ _ (T42.setTop (mkF m 236 #[.val (.int p0), .val (.int p1), .val (.int p2), .val (.int p3), .val (.int p4), .val (.int (p0 &&& (7 : Int32))), .val (.int z1), .val (.int z2), .val (.int z6), .val (.int z10), .val (.int (p1 &&& (15 : Int32))), .val (.int z11), .val (.int z12), .val (.int z13), .val (.ref b14), .val (.ref b32rb), .val (.int z34), .val (.int z41), .unset, .unset, .unset, .unset, .unset, .unset, .unset] [(.int z41)]))
                by_cases hc47 : z41 = (0 : Int32)
                · refine own_go (fun _ k => XS.ifNo X42.here hx rfl (hb hby at_236) rfl ((if0 _ _).trans (teq hc47).2) k) ?_
                  show own_Fin _ _ _ _ _ _ _ (T42.setTop (mkF m 239 #[.val (.int p0), .val (.int p1), .val (.int p2), .val (.int p3), .val (.int p4), .val (.int (p0 &&& (7 : Int32))), .val (.int z1), .val (.int z2), .val (.int z6), .val (.int z10), .val (.int (p1 &&& (15 : Int32))), .val (.int z11), .val (.int z12), .val (.int z13), .val (.ref b14), .val (.ref b32rb), .val (.int z34), .val (.int z41), .unset, .unset, .unset, .unset, .unset, .unset, .unset] []))
                  refine own_go (fun _ k => XS.iconst X42.here hx rfl (hb hby at_239) k) ?_
                  show own_Fin _ _ _ _ _ _ _ (T42.setTop (mkF m 240 #[.val (.int p0), .val (.int p1), .val (.int p2), .val (.int p3), .val (.int p4), .val (.int (p0 &&& (7 : Int32))), .val (.int z1), .val (.int z2), .val (.int z6), .val (.int z10), .val (.int (p1 &&& (15 : Int32))), .val (.int z11), .val (.int z12), .val (.int z13), .val (.ref b14), .val (.ref b32rb), .val (.int z34), .val (.int z41), .unset, .unset, .unset, .unset, .unset, .unset, .unset] [(.int (1 : Int32))]))
                  refine own_go (fun _ k => XS.goto X42.here hx rfl (pc0 := 240) (pc' := 244) rfl (hb hby at_240) (by decide) (by decide) k) ?_
                  show own_Fin _ _ _ _ _ _ _ (T42.setTop (mkF m 244 #[.val (.int p0), .val (.int p1), .val (.int p2), .val (.int p3), .val (.int p4), .val (.int (p0 &&& (7 : Int32))), .val (.int z1), .val (.int z2), .val (.int z6), .val (.int z10), .val (.int (p1 &&& (15 : Int32))), .val (.int z11), .val (.int z12), .val (.int z13), .val (.ref b14), .val (.ref b32rb), .val (.int z34), .val (.int z41), .unset, .unset, .unset, .unset, .unset, .unset, .unset] [(.int (1 : Int32))]))
                  have kj := hk44 T42 _ (own_mono X42 (by decide) (by decide)) N42 e42
                  simpa only [if_neg hc43, if_neg hc45, if_pos hc46, if_pos hc47] using kj
                · refine own_go (fun _ k => XS.ifYes X42.here hx rfl (pc0 := 236) (pc' := 243) rfl (hb hby at_236) rfl ((if0 _ _).trans (feq hc47).2) (by decide) (by decide) k) ?_
                  show own_Fin _ _ _ _ _ _ _ (T42.setTop (mkF m 243 #[.val (.int p0), .val (.int p1), .val (.int p2), .val (.int p3), .val (.int p4), .val (.int (p0 &&& (7 : Int32))), .val (.int z1), .val (.int z2), .val (.int z6), .val (.int z10), .val (.int (p1 &&& (15 : Int32))), .val (.int z11), .val (.int z12), .val (.int z13), .val (.ref b14), .val (.ref b32rb), .val (.int z34), .val (.int z41), .unset, .unset, .unset, .unset, .unset, .unset, .unset] []))
                  refine own_go (fun _ k => XS.iconst X42.here hx rfl (hb hby at_243) k) ?_
                  show own_Fin _ _ _ _ _ _ _ (T42.setTop (mkF m 244 #[.val (.int p0), .val (.int p1), .val (.int p2), .val (.int p3), .val (.int p4), .val (.int (p0 &&& (7 : Int32))), .val (.int z1), .val (.int z2), .val (.int z6), .val (.int z10), .val (.int (p1 &&& (15 : Int32))), .val (.int z11), .val (.int z12), .val (.int z13), .val (.ref b14), .val (.ref b32rb), .val (.int z34), .val (.int z41), .unset, .unset, .unset, .unset, .unset, .unset, .unset] [(.int (0 : Int32))]))
                  have kj := hk44 T42 _ (own_mono X42 (by decide) (by decide)) N42 e42
                  simpa only [if_neg hc43, if_neg hc45, if_pos hc46, if_neg hc47] using kj
              · refine own_go (fun _ k => XS.ifYes X42.here hx rfl (pc0 := 231) (pc' := 243) rfl (hb hby at_231) rfl ((if0 _ _).trans (feq hc46).2) (by decide) (by decide) k) ?_
                show own_Fin _ _ _ _ _ _ _ (T42.setTop (mkF m 243 #[.val (.int p0), .val (.int p1), .val (.int p2), .val (.int p3), .val (.int p4), .val (.int (p0 &&& (7 : Int32))), .val (.int z1), .val (.int z2), .val (.int z6), .val (.int z10), .val (.int (p1 &&& (15 : Int32))), .val (.int z11), .val (.int z12), .val (.int z13), .val (.ref b14), .val (.ref b32rb), .val (.int z34), .val (.int z41), .unset, .unset, .unset, .unset, .unset, .unset, .unset] []))
                refine own_go (fun _ k => XS.iconst X42.here hx rfl (hb hby at_243) k) ?_
                show own_Fin _ _ _ _ _ _ _ (T42.setTop (mkF m 244 #[.val (.int p0), .val (.int p1), .val (.int p2), .val (.int p3), .val (.int p4), .val (.int (p0 &&& (7 : Int32))), .val (.int z1), .val (.int z2), .val (.int z6), .val (.int z10), .val (.int (p1 &&& (15 : Int32))), .val (.int z11), .val (.int z12), .val (.int z13), .val (.ref b14), .val (.ref b32rb), .val (.int z34), .val (.int z41), .unset, .unset, .unset, .unset, .unset, .unset, .unset] [(.int (0 : Int32))]))
                have kj := hk44 T42 _ (own_mono X42 (by decide) (by decide)) N42 e42
                simpa only [if_neg hc43, if_neg hc45, if_neg hc46] using kj
        by_cases hc36 : (own_f12 z1 (p1 &&& (15 : Int32)) z11) = (0 : Int32)
        · refine own_go (fun _ k => XS.ifYes X35.here hx rfl (pc0 := 192) (pc' := 209) rfl (hb hby at_192) rfl ((if0 _ _).trans (teq hc36).1) (by decide) (by decide) k) ?_
          show own_Fin _ _ _ _ _ _ _ (T35.setTop (mkF m 209 #[.val (.int p0), .val (.int p1), .val (.int p2), .val (.int p3), .val (.int p4), .val (.int (p0 &&& (7 : Int32))), .val (.int z1), .val (.int z2), .val (.int z6), .val (.int z10), .val (.int (p1 &&& (15 : Int32))), .val (.int z11), .val (.int z12), .val (.int z13), .val (.ref b14), .val (.ref b32rb), .val (.int z34), .unset, .unset, .unset, .unset, .unset, .unset, .unset, .unset] []))
          refine own_go (fun _ k => XS.iconst X35.here hx rfl (hb hby at_209) k) ?_
          show own_Fin _ _ _ _ _ _ _ (T35.setTop (mkF m 210 #[.val (.int p0), .val (.int p1), .val (.int p2), .val (.int p3), .val (.int p4), .val (.int (p0 &&& (7 : Int32))), .val (.int z1), .val (.int z2), .val (.int z6), .val (.int z10), .val (.int (p1 &&& (15 : Int32))), .val (.int z11), .val (.int z12), .val (.int z13), .val (.ref b14), .val (.ref b32rb), .val (.int z34), .unset, .unset, .unset, .unset, .unset, .unset, .unset, .unset] [(.int (0 : Int32))]))
          have kj := hk37 T35 _ (own_mono X35 (by decide) (by decide)) N35 e35
          simpa only [if_pos hc36] using kj
        · refine own_go (fun _ k => XS.ifNo X35.here hx rfl (hb hby at_192) rfl ((if0 _ _).trans (feq hc36).1) k) ?_
          show own_Fin _ _ _ _ _ _ _ (T35.setTop (mkF m 195 #[.val (.int p0), .val (.int p1), .val (.int p2), .val (.int p3), .val (.int p4), .val (.int (p0 &&& (7 : Int32))), .val (.int z1), .val (.int z2), .val (.int z6), .val (.int z10), .val (.int (p1 &&& (15 : Int32))), .val (.int z11), .val (.int z12), .val (.int z13), .val (.ref b14), .val (.ref b32rb), .val (.int z34), .unset, .unset, .unset, .unset, .unset, .unset, .unset, .unset] []))
          refine own_go (fun _ k => XS.iload X35.here hx rfl (hb hby at_195) rfl k) ?_
          show own_Fin _ _ _ _ _ _ _ (T35.setTop (mkF m 197 #[.val (.int p0), .val (.int p1), .val (.int p2), .val (.int p3), .val (.int p4), .val (.int (p0 &&& (7 : Int32))), .val (.int z1), .val (.int z2), .val (.int z6), .val (.int z10), .val (.int (p1 &&& (15 : Int32))), .val (.int z11), .val (.int z12), .val (.int z13), .val (.ref b14), .val (.ref b32rb), .val (.int z34), .unset, .unset, .unset, .unset, .unset, .unset, .unset, .unset] [(.int z6)]))
          by_cases hc38 : z6 = (0 : Int32)
          · refine own_go (fun _ k => XS.ifYes X35.here hx rfl (pc0 := 197) (pc' := 205) rfl (hb hby at_197) rfl ((if0 _ _).trans (teq hc38).1) (by decide) (by decide) k) ?_
            show own_Fin _ _ _ _ _ _ _ (T35.setTop (mkF m 205 #[.val (.int p0), .val (.int p1), .val (.int p2), .val (.int p3), .val (.int p4), .val (.int (p0 &&& (7 : Int32))), .val (.int z1), .val (.int z2), .val (.int z6), .val (.int z10), .val (.int (p1 &&& (15 : Int32))), .val (.int z11), .val (.int z12), .val (.int z13), .val (.ref b14), .val (.ref b32rb), .val (.int z34), .unset, .unset, .unset, .unset, .unset, .unset, .unset, .unset] []))
            refine own_go (fun _ k => XS.iconst X35.here hx rfl (hb hby at_205) k) ?_
            show own_Fin _ _ _ _ _ _ _ (T35.setTop (mkF m 206 #[.val (.int p0), .val (.int p1), .val (.int p2), .val (.int p3), .val (.int p4), .val (.int (p0 &&& (7 : Int32))), .val (.int z1), .val (.int z2), .val (.int z6), .val (.int z10), .val (.int (p1 &&& (15 : Int32))), .val (.int z11), .val (.int z12), .val (.int z13), .val (.ref b14), .val (.ref b32rb), .val (.int z34), .unset, .unset, .unset, .unset, .unset, .unset, .unset, .unset] [(.int (1 : Int32))]))
            refine own_go (fun _ k => XS.goto X35.here hx rfl (pc0 := 206) (pc' := 210) rfl (hb hby at_206) (by decide) (by decide) k) ?_
            show own_Fin _ _ _ _ _ _ _ (T35.setTop (mkF m 210 #[.val (.int p0), .val (.int p1), .val (.int p2), .val (.int p3), .val (.int p4), .val (.int (p0 &&& (7 : Int32))), .val (.int z1), .val (.int z2), .val (.int z6), .val (.int z10), .val (.int (p1 &&& (15 : Int32))), .val (.int z11), .val (.int z12), .val (.int z13), .val (.ref b14), .val (.ref b32rb), .val (.int z34), .unset, .unset, .unset, .unset, .unset, .unset, .unset, .unset] [(.int (1 : Int32))]))
            have kj := hk37 T35 _ (own_mono X35 (by decide) (by decide)) N35 e35
            simpa only [if_neg hc36, if_pos hc38] using kj
          · refine own_go (fun _ k => XS.ifNo X35.here hx rfl (hb hby at_197) rfl ((if0 _ _).trans (feq hc38).1) k) ?_
            show own_Fin _ _ _ _ _ _ _ (T35.setTop (mkF m 200 #[.val (.int p0), .val (.int p1), .val (.int p2), .val (.int p3), .val (.int p4), .val (.int (p0 &&& (7 : Int32))), .val (.int z1), .val (.int z2), .val (.int z6), .val (.int z10), .val (.int (p1 &&& (15 : Int32))), .val (.int z11), .val (.int z12), .val (.int z13), .val (.ref b14), .val (.ref b32rb), .val (.int z34), .unset, .unset, .unset, .unset, .unset, .unset, .unset, .unset] []))
            refine own_go (fun _ k => XS.iload X35.here hx rfl (hb hby at_200) rfl k) ?_
            show own_Fin _ _ _ _ _ _ _ (T35.setTop (mkF m 202 #[.val (.int p0), .val (.int p1), .val (.int p2), .val (.int p3), .val (.int p4), .val (.int (p0 &&& (7 : Int32))), .val (.int z1), .val (.int z2), .val (.int z6), .val (.int z10), .val (.int (p1 &&& (15 : Int32))), .val (.int z11), .val (.int z12), .val (.int z13), .val (.ref b14), .val (.ref b32rb), .val (.int z34), .unset, .unset, .unset, .unset, .unset, .unset, .unset, .unset] [(.int z34)]))
            by_cases hc39 : z34 = (0 : Int32)
            · refine own_go (fun _ k => XS.ifNo X35.here hx rfl (hb hby at_202) rfl ((if0 _ _).trans (teq hc39).2) k) ?_
              show own_Fin _ _ _ _ _ _ _ (T35.setTop (mkF m 205 #[.val (.int p0), .val (.int p1), .val (.int p2), .val (.int p3), .val (.int p4), .val (.int (p0 &&& (7 : Int32))), .val (.int z1), .val (.int z2), .val (.int z6), .val (.int z10), .val (.int (p1 &&& (15 : Int32))), .val (.int z11), .val (.int z12), .val (.int z13), .val (.ref b14), .val (.ref b32rb), .val (.int z34), .unset, .unset, .unset, .unset, .unset, .unset, .unset, .unset] []))
              refine own_go (fun _ k => XS.iconst X35.here hx rfl (hb hby at_205) k) ?_
              show own_Fin _ _ _ _ _ _ _ (T35.setTop (mkF m 206 #[.val (.int p0), .val (.int p1), .val (.int p2), .val (.int p3), .val (.int p4), .val (.int (p0 &&& (7 : Int32))), .val (.int z1), .val (.int z2), .val (.int z6), .val (.int z10), .val (.int (p1 &&& (15 : Int32))), .val (.int z11), .val (.int z12), .val (.int z13), .val (.ref b14), .val (.ref b32rb), .val (.int z34), .unset, .unset, .unset, .unset, .unset, .unset, .unset, .unset] [(.int (1 : Int32))]))
              refine own_go (fun _ k => XS.goto X35.here hx rfl (pc0 := 206) (pc' := 210) rfl (hb hby at_206) (by decide) (by decide) k) ?_
              show own_Fin _ _ _ _ _ _ _ (T35.setTop (mkF m 210 #[.val (.int p0), .val (.int p1), .val (.int p2), .val (.int p3), .val (.int p4), .val (.int (p0 &&& (7 : Int32))), .val (.int z1), .val (.int z2), .val (.int z6), .val (.int z10), .val (.int (p1 &&& (15 : Int32))), .val (.int z11), .val (.int z12), .val (.int z13), .val (.ref b14), .val (.ref b32rb), .val (.int z34), .unset, .unset, .unset, .unset, .unset, .unset, .unset, .unset] [(.int (1 : Int32))]))
              have kj := hk37 T35 _ (own_mono X35 (by decide) (by decide)) N35 e35
              simpa only [if_neg hc36, if_neg hc38, if_pos hc39] using kj
            · refine own_go (fun _ k => XS.ifYes X35.here hx rfl (pc0 := 202) (pc' := 209) rfl (hb hby at_202) rfl ((if0 _ _).trans (feq hc39).2) (by decide) (by decide) k) ?_
              show own_Fin _ _ _ _ _ _ _ (T35.setTop (mkF m 209 #[.val (.int p0), .val (.int p1), .val (.int p2), .val (.int p3), .val (.int p4), .val (.int (p0 &&& (7 : Int32))), .val (.int z1), .val (.int z2), .val (.int z6), .val (.int z10), .val (.int (p1 &&& (15 : Int32))), .val (.int z11), .val (.int z12), .val (.int z13), .val (.ref b14), .val (.ref b32rb), .val (.int z34), .unset, .unset, .unset, .unset, .unset, .unset, .unset, .unset] []))
              refine own_go (fun _ k => XS.iconst X35.here hx rfl (hb hby at_209) k) ?_
              show own_Fin _ _ _ _ _ _ _ (T35.setTop (mkF m 210 #[.val (.int p0), .val (.int p1), .val (.int p2), .val (.int p3), .val (.int p4), .val (.int (p0 &&& (7 : Int32))), .val (.int z1), .val (.int z2), .val (.int z6), .val (.int z10), .val (.int (p1 &&& (15 : Int32))), .val (.int z11), .val (.int z12), .val (.int z13), .val (.ref b14), .val (.ref b32rb), .val (.int z34), .unset, .unset, .unset, .unset, .unset, .unset, .unset, .unset] [(.int (0 : Int32))]))
              have kj := hk37 T35 _ (own_mono X35 (by decide) (by decide)) N35 e35
              simpa only [if_neg hc36, if_neg hc38, if_neg hc39] using kj
      by_cases hc26 : z10 = (0 : Int32)
      · refine own_go (fun _ k => XS.ifYes X25.here hx rfl (pc0 := 152) (pc' := 165) rfl (hb hby at_152) rfl ((if0 _ _).trans (teq hc26).1) (by decide) (by decide) k) ?_
        show own_Fin _ _ _ _ _ _ _ (T25.setTop (mkF m 165 #[.val (.int p0), .val (.int p1), .val (.int p2), .val (.int p3), .val (.int p4), .val (.int (p0 &&& (7 : Int32))), .val (.int z1), .val (.int z2), .val (.int z6), .val (.int z10), .val (.int (p1 &&& (15 : Int32))), .val (.int z11), .val (.int z12), .val (.int z13), .val (.ref b14), .unset, .unset, .unset, .unset, .unset, .unset, .unset, .unset, .unset, .unset] []))
        have kj := hk27 T25 _ T25.heap (own_mono X25 (by decide) (by decide)) N25 rfl Z25 E_b14_25 F_search_b14_25 F_numbers_b14_25 F_elements_b14_25 F_foundIn_b14_25 F_next_b14_25 F_found_b14_25 F_bucketShift_b14_25 F_bucketStart_b14_25 (by simp only [if_pos hc26]; exact F_foundCount_b14_25) F_firstOnly_b14_25 A_b15_25 A_b19_25 (by simp only [if_pos hc26]; exact A_b23rD_25) A_b23rB_25
        simpa only [if_pos hc26] using kj
      · refine own_go (fun _ k => XS.ifNo X25.here hx rfl (hb hby at_152) rfl ((if0 _ _).trans (feq hc26).1) k) ?_
        show own_Fin _ _ _ _ _ _ _ (T25.setTop (mkF m 155 #[.val (.int p0), .val (.int p1), .val (.int p2), .val (.int p3), .val (.int p4), .val (.int (p0 &&& (7 : Int32))), .val (.int z1), .val (.int z2), .val (.int z6), .val (.int z10), .val (.int (p1 &&& (15 : Int32))), .val (.int z11), .val (.int z12), .val (.int z13), .val (.ref b14), .unset, .unset, .unset, .unset, .unset, .unset, .unset, .unset, .unset, .unset] []))
        refine own_go (fun _ k => XS.aload X25.here hx rfl (hb hby at_155) rfl rfl k) ?_
        refine own_go (fun _ k => XS.iload X25.here hx rfl (hb hby at_157) rfl k) ?_
        refine own_go (fun _ k => XS.iload X25.here hx rfl (hb hby at_159) rfl k) ?_
        obtain ⟨cq28, kq28, q28a, q28b, q28c⟩ := isOf hZ rfl E_b14_25
        obtain ⟨_, _, ⟨T28, L28, k28, n28⟩, -, X28, ⟨Lc28, hQ28, l28, y28, z28⟩, st28⟩ := X25.virtualBack hx (y := (⟨"com/example/reachability/reachability/CandidateList", "find", "(II)I"⟩ : MethodName)) (z := (⟨"com/example/reachability/reachability/CandidateList", "find", "(II)I"⟩ : MethodName)) hown (mvT hZ (hw _ (List.mem_of_getElem? (i := 52) rfl))) (mvT hZ (hw _ (List.mem_of_getElem? (i := 53) rfl))) (notFace_of_selects (args := #[]) (mvT hZ (hw _ (List.mem_of_getElem? (i := 55) rfl)))) (mvT hZ (hw _ (List.mem_of_getElem? (i := 55) rfl))) (mvT hZ (hw _ (List.mem_of_getElem? (i := 54) rfl))) (by decide) (backOf (W := 0) (rm7 l Z a0 hw [] b14 z12 z13 b15 b19 b23rF b23rX b23rD (own_f3 f18) b23rB ((1 : Int32) + (1 : Int32)) (z6 &&& 1) (own_find (p1 &&& (15 : Int32)) z11 (own_f3 f18) ((own_iushr (f18 2) (own_f3 f18)) + (2 : Int32)) gB23 f18 (z6 &&& 1) ((1 : Int32) + (1 : Int32)) (0 : Int32) (fun _ => (0 : Int32)) (fun _ => (0 : Int32))).1 f18 (own_find (p1 &&& (15 : Int32)) z11 (own_f3 f18) ((own_iushr (f18 2) (own_f3 f18)) + (2 : Int32)) gB23 f18 (z6 &&& 1) ((1 : Int32) + (1 : Int32)) (0 : Int32) (fun _ => (0 : Int32)) (fun _ => (0 : Int32))).2.1 gY25 (own_find (p1 &&& (15 : Int32)) z11 (own_f3 f18) ((own_iushr (f18 2) (own_f3 f18)) + (2 : Int32)) gB23 f18 (z6 &&& 1) ((1 : Int32) + (1 : Int32)) (0 : Int32) (fun _ => (0 : Int32)) (fun _ => (0 : Int32))).2.2 ((own_iushr (f18 2) (own_f3 f18)) + (2 : Int32)) gB23 T25.heap n0 Z25 F_numbers_b14_25 F_elements_b14_25 F_foundIn_b14_25 F_next_b14_25 F_found_b14_25 F_bucketShift_b14_25 F_bucketStart_b14_25 E_b14_25 F_search_b14_25 F_foundCount_b14_25 F_firstOnly_b14_25 A_b15_25 A_b23rF_25 A_b23rX_25 A_b23rD_25 A_b23rB_25 ge_b14 ge_b23rF ge_b23rX ge_b23rD ne_b15_b23rF ne_b15_b23rX ne_b15_b23rD ne_b15_b23rB ne_b23rF_b23rX ne_b23rF_b23rD ne_b23rF_b23rB ne_b23rX_b23rD ne_b23rX_b23rB ne_b23rD_b23rB ⟨(own_f8v (by rw [hf18]; rw [hf17]; rw [hf16]; rw [← hz2]; rw [← hz1]; exact own_m2srt _) Pq23_23 _ (by rw [← hz12]; exact own_m15 _)).1, Pq25_14⟩) hZ (hw _ (List.mem_of_getElem? (i := 56) rfl)) (hw _ (List.mem_of_getElem? (i := 2) rfl)) (by decide) (by decide)) q28a q28c (g := (mkF m 161 #[.val (.int p0), .val (.int p1), .val (.int p2), .val (.int p3), .val (.int p4), .val (.int (p0 &&& (7 : Int32))), .val (.int z1), .val (.int z2), .val (.int z6), .val (.int z10), .val (.int (p1 &&& (15 : Int32))), .val (.int z11), .val (.int z12), .val (.int z13), .val (.ref b14), .unset, .unset, .unset, .unset, .unset, .unset, .unset, .unset, .unset, .unset] [(.int z13), (.int z12), (.ref b14)])) rfl (by rw [hml]; rfl) (Steps.refl _) (argsL := [(.int z12), (.int z13)]) (rest := []) (lenOf own_pd9 rfl) rfl (by show 2 * 0 + _ ≤ _; exact Nat.le_of_eq rfl) (hb hby at_161) (fun _ _ => ⟨rfl, rfl, (by decide : 8 + 0 ≤ _), (by decide : 40 + 0 ≤ _)⟩)
        dsimp only [Pt.U, Pt.locs, Pt.cells, Pt.slots] at X28 l28 y28 z28 st28 hQ28
        replace y28 : 8 = k28 := y28.symm
        replace z28 : 40 = n28 := z28.symm
        subst y28 z28
        obtain ⟨vr28, gY28, rfl, N28q, Kq28, F_numbers_b14_28, F_elements_b14_28, F_foundIn_b14_28, F_next_b14_28, F_found_b14_28, F_bucketShift_b14_28, F_bucketStart_b14_28, E_b14_28, F_search_b14_28, F_foundCount_b14_28, F_firstOnly_b14_28, A_b23rF_28, A_b23rX_28, A_b23rD_28, Pq28_14⟩ := hQ28
        have N28 : Fr n0 L28 := by rw [l28]; exact Fr.app N25 N28q
        have A_b15_28 := A_b15_25.keep Kq28 (ninS (Ne.symm ne_b14_b15) (ninS ne_b15_b23rF (ninS ne_b15_b23rX (ninS ne_b15_b23rD nin0))))
        have A_b19_28 := A_b19_25.keep Kq28 (ninS (Ne.symm ne_b14_b19) (ninS ne_b19_b23rF (ninS ne_b19_b23rX (ninS ne_b19_b23rD nin0))))
        have A_b23rB_28 := A_b23rB_25.keep Kq28 (ninS (Ne.symm ne_b14_b23rB) (ninS (Ne.symm ne_b23rF_b23rB) (ninS (Ne.symm ne_b23rX_b23rB) (ninS (Ne.symm ne_b23rD_b23rB) nin0))))
        have Z28 : n0 ≤ T28.heap.size := Nat.le_trans Z25 Kq28.1
        refine own_go (fun tg k => st28.trans k) ?_
        show own_Fin _ _ _ _ _ _ _ (T28.setTop (mkF m 164 #[.val (.int p0), .val (.int p1), .val (.int p2), .val (.int p3), .val (.int p4), .val (.int (p0 &&& (7 : Int32))), .val (.int z1), .val (.int z2), .val (.int z6), .val (.int z10), .val (.int (p1 &&& (15 : Int32))), .val (.int z11), .val (.int z12), .val (.int z13), .val (.ref b14), .unset, .unset, .unset, .unset, .unset, .unset, .unset, .unset, .unset, .unset] [(.int vr28)]))
        refine own_go (fun _ k => XS.pop X28.here hx rfl (hb hby at_164) rfl rfl k) ?_
        show own_Fin _ _ _ _ _ _ _ (T28.setTop (mkF m 165 #[.val (.int p0), .val (.int p1), .val (.int p2), .val (.int p3), .val (.int p4), .val (.int (p0 &&& (7 : Int32))), .val (.int z1), .val (.int z2), .val (.int z6), .val (.int z10), .val (.int (p1 &&& (15 : Int32))), .val (.int z11), .val (.int z12), .val (.int z13), .val (.ref b14), .unset, .unset, .unset, .unset, .unset, .unset, .unset, .unset, .unset, .unset] []))
        have kj := hk27 T28 _ T28.heap (own_mono X28 (by decide) (by decide)) N28 rfl Z28 E_b14_28 F_search_b14_28 F_numbers_b14_28 F_elements_b14_28 F_foundIn_b14_28 F_next_b14_28 F_found_b14_28 F_bucketShift_b14_28 F_bucketStart_b14_28 (by simp only [if_neg hc26]; exact F_foundCount_b14_28) F_firstOnly_b14_28 A_b15_28 A_b19_28 (by simp only [if_neg hc26]; exact A_b23rD_28) A_b23rB_28
        simpa only [if_neg hc26] using kj
    by_cases hc7 : ((own_iushr p0 (8 : Int32)) &&& (1 : Int32)) = (0 : Int32)
    · refine own_go (fun _ k => XS.ifYes X5.here hx rfl (pc0 := 48) (pc' := 55) rfl (hb hby at_48) rfl ((if0 _ _).trans (teq hc7).1) (by decide) (by decide) k) ?_
      show own_Fin _ _ _ _ _ _ _ (T5.setTop (mkF m 55 #[.val (.int p0), .val (.int p1), .val (.int p2), .val (.int p3), .val (.int p4), .val (.int (p0 &&& (7 : Int32))), .val (.int z1), .val (.int z2), .val (.int z6), .unset, .unset, .unset, .unset, .unset, .unset, .unset, .unset, .unset, .unset, .unset, .unset, .unset, .unset, .unset, .unset] []))
      refine own_go (fun _ k => XS.iconst X5.here hx rfl (hb hby at_55) k) ?_
      show own_Fin _ _ _ _ _ _ _ (T5.setTop (mkF m 56 #[.val (.int p0), .val (.int p1), .val (.int p2), .val (.int p3), .val (.int p4), .val (.int (p0 &&& (7 : Int32))), .val (.int z1), .val (.int z2), .val (.int z6), .unset, .unset, .unset, .unset, .unset, .unset, .unset, .unset, .unset, .unset, .unset, .unset, .unset, .unset, .unset, .unset] [(.int (0 : Int32))]))
      have kj := hk8 T5 _ (own_mono X5 (by decide) (by decide)) N5 e5
      simpa only [if_pos hc7] using kj
    · refine own_go (fun _ k => XS.ifNo X5.here hx rfl (hb hby at_48) rfl ((if0 _ _).trans (feq hc7).1) k) ?_
      show own_Fin _ _ _ _ _ _ _ (T5.setTop (mkF m 51 #[.val (.int p0), .val (.int p1), .val (.int p2), .val (.int p3), .val (.int p4), .val (.int (p0 &&& (7 : Int32))), .val (.int z1), .val (.int z2), .val (.int z6), .unset, .unset, .unset, .unset, .unset, .unset, .unset, .unset, .unset, .unset, .unset, .unset, .unset, .unset, .unset, .unset] []))
      refine own_go (fun _ k => XS.iconst X5.here hx rfl (hb hby at_51) k) ?_
      show own_Fin _ _ _ _ _ _ _ (T5.setTop (mkF m 52 #[.val (.int p0), .val (.int p1), .val (.int p2), .val (.int p3), .val (.int p4), .val (.int (p0 &&& (7 : Int32))), .val (.int z1), .val (.int z2), .val (.int z6), .unset, .unset, .unset, .unset, .unset, .unset, .unset, .unset, .unset, .unset, .unset, .unset, .unset, .unset, .unset, .unset] [(.int (1 : Int32))]))
      refine own_go (fun _ k => XS.goto X5.here hx rfl (pc0 := 52) (pc' := 56) rfl (hb hby at_52) (by decide) (by decide) k) ?_
      show own_Fin _ _ _ _ _ _ _ (T5.setTop (mkF m 56 #[.val (.int p0), .val (.int p1), .val (.int p2), .val (.int p3), .val (.int p4), .val (.int (p0 &&& (7 : Int32))), .val (.int z1), .val (.int z2), .val (.int z6), .unset, .unset, .unset, .unset, .unset, .unset, .unset, .unset, .unset, .unset, .unset, .unset, .unset, .unset, .unset, .unset] [(.int (1 : Int32))]))
      have kj := hk8 T5 _ (own_mono X5 (by decide) (by decide)) N5 e5
      simpa only [if_neg hc7] using kj
  by_cases hc3 : ((own_iushr p0 (7 : Int32)) &&& (1 : Int32)) = (0 : Int32)
  · refine own_go (fun _ k => XS.ifYes X0.here hx rfl (pc0 := 32) (pc' := 39) rfl (hb hby at_32) rfl ((if0 _ _).trans (teq hc3).1) (by decide) (by decide) k) ?_
    show own_Fin _ _ _ _ _ _ _ (s₁.setTop (mkF m 39 #[.val (.int p0), .val (.int p1), .val (.int p2), .val (.int p3), .val (.int p4), .val (.int (p0 &&& (7 : Int32))), .val (.int z1), .val (.int z2), .unset, .unset, .unset, .unset, .unset, .unset, .unset, .unset, .unset, .unset, .unset, .unset, .unset, .unset, .unset, .unset, .unset] []))
    refine own_go (fun _ k => XS.iconst X0.here hx rfl (hb hby at_39) k) ?_
    show own_Fin _ _ _ _ _ _ _ (s₁.setTop (mkF m 40 #[.val (.int p0), .val (.int p1), .val (.int p2), .val (.int p3), .val (.int p4), .val (.int (p0 &&& (7 : Int32))), .val (.int z1), .val (.int z2), .unset, .unset, .unset, .unset, .unset, .unset, .unset, .unset, .unset, .unset, .unset, .unset, .unset, .unset, .unset, .unset, .unset] [(.int (0 : Int32))]))
    have kj := hk4 s₁ _ (own_mono X0 (by decide) (by decide)) N0 e0
    simpa only [if_pos hc3] using kj
  · refine own_go (fun _ k => XS.ifNo X0.here hx rfl (hb hby at_32) rfl ((if0 _ _).trans (feq hc3).1) k) ?_
    show own_Fin _ _ _ _ _ _ _ (s₁.setTop (mkF m 35 #[.val (.int p0), .val (.int p1), .val (.int p2), .val (.int p3), .val (.int p4), .val (.int (p0 &&& (7 : Int32))), .val (.int z1), .val (.int z2), .unset, .unset, .unset, .unset, .unset, .unset, .unset, .unset, .unset, .unset, .unset, .unset, .unset, .unset, .unset, .unset, .unset] []))
    refine own_go (fun _ k => XS.iconst X0.here hx rfl (hb hby at_35) k) ?_
    show own_Fin _ _ _ _ _ _ _ (s₁.setTop (mkF m 36 #[.val (.int p0), .val (.int p1), .val (.int p2), .val (.int p3), .val (.int p4), .val (.int (p0 &&& (7 : Int32))), .val (.int z1), .val (.int z2), .unset, .unset, .unset, .unset, .unset, .unset, .unset, .unset, .unset, .unset, .unset, .unset, .unset, .unset, .unset, .unset, .unset] [(.int (1 : Int32))]))
    refine own_go (fun _ k => XS.goto X0.here hx rfl (pc0 := 36) (pc' := 40) rfl (hb hby at_36) (by decide) (by decide) k) ?_
    show own_Fin _ _ _ _ _ _ _ (s₁.setTop (mkF m 40 #[.val (.int p0), .val (.int p1), .val (.int p2), .val (.int p3), .val (.int p4), .val (.int (p0 &&& (7 : Int32))), .val (.int z1), .val (.int z2), .unset, .unset, .unset, .unset, .unset, .unset, .unset, .unset, .unset, .unset, .unset, .unset, .unset, .unset, .unset, .unset, .unset] [(.int (1 : Int32))]))
    have kj := hk4 s₁ _ (own_mono X0 (by decide) (by decide)) N0 e0
    simpa only [if_neg hc3] using kj
set_option maxRecDepth 65536 in
set_option maxHeartbeats 40000000 in
theorem comes_1 {Post : Tables → Env → Array Value → State → Outcome → State → Prop} (hpost : ∀ tb e args s v u, (limb_1_1.after args s (.returned v) u = true ∧ limb_1_2.after args s (.returned v) u = true ∧ True) → FrameEnd s (.returned v) u (Jvm.fieldLocs frame_1_writes args s ++ Jvm.arrayLocs frame_1_arrays args s ++ Jvm.staticLocs frame_1_statics s) 32 192 → Post tb e args s (.returned v) u) :
    ArmFor flags0 classFile x code maxLocals ret World_1 tables_1 room_1 Calls_1 rest_1 Pre_1 Post := by
  intro l hfl _ _ p e ha hc hk s m args below hf hA hF happ hP
  obtain ⟨hcalls, hrest, hpre⟩ := hP
  obtain ⟨-, -, -, hnamed, -, -, -, hat⟩ := (Spec.applies_iff hf).mp happ
  obtain ⟨hg, hn⟩ := and_e (Cond.before_iff.mp (show (Jvm.Cond.and given_1 narrow_1).before args s = true from hpre))
  obtain ⟨g1, g2⟩ := and_e hg
  obtain ⟨g3, g4⟩ := and_e g2
  obtain ⟨g5, g6⟩ := and_e g4
  obtain ⟨g7, g8⟩ := and_e g6
  obtain ⟨g9, g10⟩ := and_e g8
  obtain ⟨w0, w1, w2, w3, w4, rfl⟩ : ∃ w0 w1 w2 w3 w4 : Value, args = #[w0, w1, w2, w3, w4] := by
    have hs : args.size = 5 := by simpa [Cond.value, given_1] using g1
    obtain ⟨L⟩ := args
    match L, hs with
    | [w0, w1, w2, w3, w4], _ => exact ⟨w0, w1, w2, w3, w4, rfl⟩
  have hw := fun d (hd : d ∈ tables_1) => atoms_spec (ws := Jvm.Cond.code x code maxLocals ret :: tables_1) hat d (List.mem_cons_of_mem _ hd)
  have hfit : Fit s := fun {y c} hc i hi => by
    obtain ⟨ha, rfl⟩ := Array.getElem?_eq_some_iff.mp hc
    have q := List.all_eq_true.mp ((Array.all_eq_true_iff_forall_mem.mp hF) _ (Array.getElem_mem ha)) i (List.mem_range.mpr hi)
    simpa [Array.getElem?_eq_getElem hi] using q
  obtain ⟨i0, ei0⟩ := is_v g3
  obtain rfl : w0 = (.int i0) := Option.some.inj ei0
  obtain ⟨i1, ei1⟩ := is_v g5
  obtain rfl : w1 = (.int i1) := Option.some.inj ei1
  obtain ⟨i2, ei2⟩ := is_v g7
  obtain rfl : w2 = (.int i2) := Option.some.inj ei2
  obtain ⟨i3, ei3⟩ := is_v g9
  obtain rfl : w3 = (.int i3) := Option.some.inj ei3
  obtain ⟨i4, ei4⟩ := is_v g10
  obtain rfl : w4 = (.int i4) := Option.some.inj ei4
  obtain ⟨n, o, h1, h2, h3, _, L, rfl, ⟨rfl, N, hrest'⟩, hq⟩ := rm0 l s _ hw tables_1 i0 i1 i2 i3 i4 s.heap s.heap.size (Nat.le_refl _) p e ha hc hk s m _ below hf ((Spec.applies_iff_loose hf).mp happ).1 ⟨rfl, State.Warmed39.refl s, rfl⟩ trivial
  refine ⟨n, _, h1, h2, h3, hpost _ _ _ _ _ _ ⟨Cond.after_iff.mpr rfl, Cond.after_iff.mpr (eq_i res_at (Term.int_eval (1)) rfl), trivial⟩ ⟨hq.1, hq.2.1, (hq.2.2.sift fun y hy => Or.inr (N y hy)).mono (by decide) (by decide)⟩⟩
theorem main_1_1 : Claimed_1_1 := comes_1 fun _ _ _ _ _ _ h hF => ⟨h.1, hF⟩
theorem main_1_2 : Claimed_1_2 := comes_1 fun _ _ _ _ _ _ h hF => ⟨h.2.1, hF⟩
end Jvm.Pilot.@@N@@
namespace Jvm.Pilot.@@N@@
open Jvm Jvm.ClassFile Sem Op Lib Jvm.Free Jvm.Stand Jvm.Pilot.@@N@@.Jvm.D
/-! MADE BY PROGRAM (witnessworld.py) out of the Statement's table words and the real class files: 10 classes; the members and pool entries that the words name. The judged class is class 1, her method 3. -/
namespace start1
open Jvm.ClassFile
def u (s : String) : CpInfo := .utf8 (stringToUtf16 s)
/-- a pool by its gaps: so many unusable entries, then the entry; so many at the end -/
def gap : Nat → List CpInfo → List CpInfo
  | 0, r => r
  | n + 1, r => .unusable :: gap n r
def poolList (es : List (Nat × CpInfo)) (last : Nat) : List CpInfo := es.foldr (fun e r => gap e.1 (e.2 :: r)) (gap last [])
def pool (es : List (Nat × CpInfo)) (last : Nat) : Array CpInfo := ⟨poolList es last⟩
def fileOf (pool : Array CpInfo) (this : Nat) (attrs : Array Attribute := #[]) (ms : Array MethodInfo := #[]) (fl : Nat := 33) (sup : Nat := 0) (ifs : Array Nat := #[]) (fds : Array FieldInfo := #[]) : ClassFile where
  minorVersion := 0
  majorVersion := 65
  constantPool := pool
  accessFlags := fl
  thisClass := this
  superClass := sup
  interfaces := ifs
  fields := fds
  methods := ms
  attributes := attrs
def plain (name : String) (sup : Option ClassId) : Class where
  name := name
  kind := .ordinary
  loader := none
  accessFlags := 33
  super := sup
  interfaces := #[]
  cf := none
  fields := #[]
  methods := #[]
  instanceTypes := #[]
  staticTypes := #[]
  resolved := #[]
  callSites := []
  init := .initialized
  statics := none
  mirror := none

def pool0 : Array CpInfo := pool [(5, u "<init>"), (0, u "()V"), (1, .class_ 10), (1, u "java/lang/Object")] 113

def k0c0 : Code := { maxStack := 0, maxLocals := 1, code := object_method_1_code, exceptionTable := #[], attributes := #[] }
def k0m0 : Method := { name := "<init>", desc := "()V", sig := { parameters := [], returnType := none }, accessFlags := 1, code := some k0c0 }
/-- java/lang/Object -/
def k0 : Class := { plain "java/lang/Object" none with
  accessFlags := 33
  interfaces := #[]
  cf := some (fileOf pool0 8 #[] #[{ accessFlags := 1, nameIndex := 5, descriptorIndex := 6, attributes := #[] }] 33 0 #[] #[])
  fields := #[]
  methods := #[k0m0]
  instanceTypes := #[]
  staticTypes := #[]
  resolved := Array.replicate 124 none
  statics := none }

def pool1 : Array CpInfo := pool [(2, .class_ 4), (1, u "java/lang/Object"), (0, u "<init>"), (0, u "()V"), (0, .class_ 8), (0, u "com/example/reachability/reachability/CandidateList"), (0, .methodref 7 10), (0, .nameAndType 5 11), (0, u "([I[I)V"), (0, .methodref 7 13), (0, .nameAndType 14 15), (0, u "reset"), (0, u "(Z)V"), (0, .methodref 7 17), (0, .nameAndType 18 19), (0, u "find"), (0, u "(II)I"), (0, .methodref 7 21), (0, .nameAndType 22 23), (0, u "foundElements"), (0, u "()[I"), (0, .methodref 25 26), (0, .class_ 27), (0, .nameAndType 28 29), (0, u "com/example/reachability/reachability/CandidateListFoundElementsPinLaw"), (0, u "in"), (0, u "(III)Z"), (0, .methodref 25 31), (0, .nameAndType 32 33), (0, u "at"), (0, u "([I[III)Z"), (3, u "law"), (0, u "(IIIII)Z")] 4

def k1m0 : Method := { name := "<init>", desc := "()V", sig := { parameters := [], returnType := none }, accessFlags := 1, code := none }
def k1c1 : Code := { maxStack := 2, maxLocals := 3, code := method_2_code, exceptionTable := #[], attributes := #[] }
def k1m1 : Method := { name := "in", desc := "(III)Z", sig := { parameters := [.int, .int, .int], returnType := some .boolean }, accessFlags := 10, code := some k1c1 }
def k1c2 : Code := { maxStack := 3, maxLocals := 4, code := method_3_code, exceptionTable := #[], attributes := #[] }
def k1m2 : Method := { name := "at", desc := "([I[III)Z", sig := { parameters := [(.array .int), (.array .int), .int, .int], returnType := some .boolean }, accessFlags := 10, code := some k1c2 }
def k1c3 : Code := { maxStack := 7, maxLocals := 25, code := code, exceptionTable := #[], attributes := #[] }
def k1m3 : Method := { name := "law", desc := "(IIIII)Z", sig := { parameters := [.int, .int, .int, .int, .int], returnType := some .boolean }, accessFlags := 9, code := some k1c3 }
/-- com/example/reachability/reachability/CandidateListFoundElementsPinLaw -/
def k1 : Class := { plain "com/example/reachability/reachability/CandidateListFoundElementsPinLaw" (some 0) with
  accessFlags := 49
  interfaces := #[]
  cf := some (fileOf pool1 25 #[] #[{ accessFlags := 1, nameIndex := 5, descriptorIndex := 6, attributes := #[] }, { accessFlags := 10, nameIndex := 28, descriptorIndex := 29, attributes := #[] }, { accessFlags := 10, nameIndex := 32, descriptorIndex := 33, attributes := #[] }, { accessFlags := 9, nameIndex := 37, descriptorIndex := 38, attributes := #[] }] 49 2 #[] #[])
  fields := #[]
  methods := #[k1m0, k1m1, k1m2, k1m3]
  instanceTypes := #[]
  staticTypes := #[]
  resolved := Array.replicate 43 none
  statics := none }

def pool2 : Array CpInfo := pool [(1, .methodref 2 3), (0, .class_ 4), (0, .nameAndType 5 6), (0, u "java/lang/Object"), (0, u "<init>"), (0, u "()V"), (0, .fieldref 8 9), (0, .class_ 10), (0, .nameAndType 11 12), (0, u "com/example/reachability/reachability/CandidateList"), (0, u "search"), (0, u "I"), (0, .fieldref 8 14), (0, .nameAndType 15 16), (0, u "runs"), (0, u "[I"), (0, .fieldref 8 18), (0, .nameAndType 19 16), (0, u "numbers"), (0, .fieldref 8 21), (0, .nameAndType 22 16), (0, u "elements"), (0, .fieldref 8 24), (0, .nameAndType 25 16), (0, u "foundIn"), (0, .fieldref 8 27), (0, .nameAndType 28 16), (0, u "next"), (0, .fieldref 8 30), (0, .nameAndType 31 16), (0, u "found"), (0, .methodref 8 33), (0, .nameAndType 34 35), (0, u "bucketShift"), (0, u "([I)I"), (0, .fieldref 8 37), (0, .nameAndType 34 12), (0, .methodref 8 39), (0, .nameAndType 40 41), (0, u "bucketStarts"), (0, u "([II)[I"), (0, .fieldref 8 43), (0, .nameAndType 44 16), (0, u "bucketStart"), (0, .methodref 46 47), (0, .class_ 48), (0, .nameAndType 49 50), (0, u "java/lang/Math"), (0, u "max"), (0, u "(II)I"), (2, .integer 2147483647), (6, .fieldref 8 61), (0, .nameAndType 62 12), (0, u "foundCount"), (0, .fieldref 8 64), (0, .nameAndType 65 66), (0, u "firstOnly"), (0, u "Z"), (0, .fieldref 8 68), (0, .nameAndType 69 66), (0, u "forRuns"), (0, .fieldref 8 71), (0, .nameAndType 72 12), (0, u "runsLength"), (2, u "reset"), (0, u "(Z)V"), (3, u "(I)I"), (0, .methodref 8 82), (0, .nameAndType 83 80), (0, u "first"), (0, .methodref 8 85), (0, .nameAndType 86 80), (0, u "open"), (0, .methodref 8 88), (0, .nameAndType 89 80), (0, u "numberOf"), (0, .methodref 8 91), (0, .nameAndType 92 93), (0, u "satisfied"), (0, u "()Z"), (2, u "find"), (3, .methodref 8 101), (0, .nameAndType 102 103), (0, u "firstAtLeast"), (0, u "([IIII)I"), (0, u "([I[I)V"), (12, u "()[I"), (1, u "foundElements")] 2

def k2c0 : Code := { maxStack := 3, maxLocals := 3, code := prog_2_method_1_code, exceptionTable := #[], attributes := #[] }
def k2m0 : Method := { name := "<init>", desc := "([I[I)V", sig := { parameters := [(.array .int), (.array .int)], returnType := none }, accessFlags := 0, code := some k2c0 }
def k2c1 : Code := { maxStack := 3, maxLocals := 3, code := prog_2_method_2_code, exceptionTable := #[], attributes := #[] }
def k2m1 : Method := { name := "bucketShift", desc := "([I)I", sig := { parameters := [(.array .int)], returnType := some .int }, accessFlags := 10, code := some k2c1 }
def k2c2 : Code := { maxStack := 6, maxLocals := 8, code := prog_2_method_3_code, exceptionTable := #[], attributes := #[] }
def k2m2 : Method := { name := "bucketStarts", desc := "([II)[I", sig := { parameters := [(.array .int), .int], returnType := some (.array .int) }, accessFlags := 10, code := some k2c2 }
def k2c3 : Code := { maxStack := 3, maxLocals := 2, code := prog_2_method_7_code, exceptionTable := #[], attributes := #[] }
def k2m3 : Method := { name := "reset", desc := "(Z)V", sig := { parameters := [.boolean], returnType := none }, accessFlags := 0, code := some k2c3 }
def k2c4 : Code := { maxStack := 1, maxLocals := 1, code := prog_2_method_9_code, exceptionTable := #[], attributes := #[] }
def k2m4 : Method := { name := "satisfied", desc := "()Z", sig := { parameters := [], returnType := some .boolean }, accessFlags := 0, code := some k2c4 }
def k2c5 : Code := { maxStack := 5, maxLocals := 5, code := prog_2_method_12_code, exceptionTable := #[], attributes := #[] }
def k2m5 : Method := { name := "find", desc := "(II)I", sig := { parameters := [.int, .int], returnType := some .int }, accessFlags := 0, code := some k2c5 }
def k2c6 : Code := { maxStack := 5, maxLocals := 3, code := prog_2_method_17_code, exceptionTable := #[], attributes := #[] }
def k2m6 : Method := { name := "foundElements", desc := "()[I", sig := { parameters := [], returnType := some (.array .int) }, accessFlags := 0, code := some k2c6 }
def k2c7 : Code := { maxStack := 2, maxLocals := 2, code := prog_2_method_18_code, exceptionTable := #[], attributes := #[] }
def k2m7 : Method := { name := "numberOf", desc := "(I)I", sig := { parameters := [.int], returnType := some .int }, accessFlags := 2, code := some k2c7 }
def k2c8 : Code := { maxStack := 5, maxLocals := 3, code := prog_2_method_19_code, exceptionTable := #[], attributes := #[] }
def k2m8 : Method := { name := "first", desc := "(I)I", sig := { parameters := [.int], returnType := some .int }, accessFlags := 0, code := some k2c8 }
def k2c9 : Code := { maxStack := 2, maxLocals := 7, code := prog_2_method_20_code, exceptionTable := #[], attributes := #[] }
def k2m9 : Method := { name := "firstAtLeast", desc := "([IIII)I", sig := { parameters := [(.array .int), .int, .int, .int], returnType := some .int }, accessFlags := 8, code := some k2c9 }
def k2c10 : Code := { maxStack := 3, maxLocals := 5, code := prog_2_method_21_code, exceptionTable := #[], attributes := #[] }
def k2m10 : Method := { name := "open", desc := "(I)I", sig := { parameters := [.int], returnType := some .int }, accessFlags := 2, code := some k2c10 }
/-- com/example/reachability/reachability/CandidateList -/
def k2 : Class := { plain "com/example/reachability/reachability/CandidateList" (some 0) with
  accessFlags := 32
  interfaces := #[]
  cf := some (fileOf pool2 8 #[] #[{ accessFlags := 0, nameIndex := 5, descriptorIndex := 104, attributes := #[] }, { accessFlags := 10, nameIndex := 34, descriptorIndex := 35, attributes := #[] }, { accessFlags := 10, nameIndex := 40, descriptorIndex := 41, attributes := #[] }, { accessFlags := 0, nameIndex := 75, descriptorIndex := 76, attributes := #[] }, { accessFlags := 0, nameIndex := 92, descriptorIndex := 93, attributes := #[] }, { accessFlags := 0, nameIndex := 96, descriptorIndex := 50, attributes := #[] }, { accessFlags := 0, nameIndex := 119, descriptorIndex := 117, attributes := #[] }, { accessFlags := 2, nameIndex := 89, descriptorIndex := 80, attributes := #[] }, { accessFlags := 0, nameIndex := 83, descriptorIndex := 80, attributes := #[] }, { accessFlags := 8, nameIndex := 102, descriptorIndex := 103, attributes := #[] }, { accessFlags := 2, nameIndex := 86, descriptorIndex := 80, attributes := #[] }] 32 2 #[] #[{ accessFlags := 18, nameIndex := 19, descriptorIndex := 16, attributes := #[] }, { accessFlags := 18, nameIndex := 22, descriptorIndex := 16, attributes := #[] }, { accessFlags := 18, nameIndex := 34, descriptorIndex := 12, attributes := #[] }, { accessFlags := 18, nameIndex := 44, descriptorIndex := 16, attributes := #[] }, { accessFlags := 18, nameIndex := 25, descriptorIndex := 16, attributes := #[] }, { accessFlags := 2, nameIndex := 11, descriptorIndex := 12, attributes := #[] }, { accessFlags := 18, nameIndex := 28, descriptorIndex := 16, attributes := #[] }, { accessFlags := 18, nameIndex := 31, descriptorIndex := 16, attributes := #[] }, { accessFlags := 2, nameIndex := 62, descriptorIndex := 12, attributes := #[] }, { accessFlags := 2, nameIndex := 65, descriptorIndex := 66, attributes := #[] }, { accessFlags := 2, nameIndex := 69, descriptorIndex := 66, attributes := #[] }, { accessFlags := 2, nameIndex := 15, descriptorIndex := 16, attributes := #[] }, { accessFlags := 2, nameIndex := 72, descriptorIndex := 12, attributes := #[] }])
  fields := #[{ name := "numbers", type := (.array .int), accessFlags := 18, slot := 0, constantValue := 0 }, { name := "elements", type := (.array .int), accessFlags := 18, slot := 1, constantValue := 0 }, { name := "bucketShift", type := .int, accessFlags := 18, slot := 2, constantValue := 0 }, { name := "bucketStart", type := (.array .int), accessFlags := 18, slot := 3, constantValue := 0 }, { name := "foundIn", type := (.array .int), accessFlags := 18, slot := 4, constantValue := 0 }, { name := "search", type := .int, accessFlags := 2, slot := 5, constantValue := 0 }, { name := "next", type := (.array .int), accessFlags := 18, slot := 6, constantValue := 0 }, { name := "found", type := (.array .int), accessFlags := 18, slot := 7, constantValue := 0 }, { name := "foundCount", type := .int, accessFlags := 2, slot := 8, constantValue := 0 }, { name := "firstOnly", type := .boolean, accessFlags := 2, slot := 9, constantValue := 0 }, { name := "forRuns", type := .boolean, accessFlags := 2, slot := 10, constantValue := 0 }, { name := "runs", type := (.array .int), accessFlags := 2, slot := 11, constantValue := 0 }, { name := "runsLength", type := .int, accessFlags := 2, slot := 12, constantValue := 0 }]
  methods := #[k2m0, k2m1, k2m2, k2m3, k2m4, k2m5, k2m6, k2m7, k2m8, k2m9, k2m10]
  instanceTypes := #[(.array .int), (.array .int), .int, (.array .int), (.array .int), .int, (.array .int), (.array .int), .int, .boolean, .boolean, (.array .int), .int]
  staticTypes := #[]
  resolved := Array.replicate 122 none
  statics := none }

def pool3 : Array CpInfo := pool [(1, .class_ 2), (0, u "java/lang/Math"), (1, .class_ 6), (1, u "java/lang/Object"), (0, u "<init>"), (0, u "()V"), (89, .class_ 100), (1, u "java/lang/Math$RandomNumberGeneratorHolder"), (71, u "negativeZeroFloatBits"), (0, u "J"), (2, u "negativeZeroDoubleBits"), (21, u "max"), (46, u "$assertionsDisabled"), (0, u "Z"), (88, u "(II)I"), (2, u "twoToTheDoubleScaleDown"), (0, u "D"), (4, u "twoToTheDoubleScaleUp"), (9, u "E"), (3, u "PI"), (2, u "TAU"), (2, u "DEGREES_TO_RADIANS"), (0, u "RADIANS_TO_DEGREES")] 94

def k3m0 : Method := { name := "<init>", desc := "()V", sig := { parameters := [], returnType := none }, accessFlags := 2, code := none }
def k3c1 : Code := { maxStack := 2, maxLocals := 2, code := jdk_29_method_65_code, exceptionTable := #[], attributes := #[] }
def k3m1 : Method := { name := "max", desc := "(II)I", sig := { parameters := [.int, .int], returnType := some .int }, accessFlags := 9, code := some k3c1 }
/-- java/lang/Math -/
def k3 : Class := { plain "java/lang/Math" (some 0) with
  accessFlags := 49
  interfaces := #[]
  cf := some (fileOf pool3 1 #[.nestMembers #[98]] #[{ accessFlags := 2, nameIndex := 7, descriptorIndex := 8, attributes := #[] }, { accessFlags := 9, nameIndex := 198, descriptorIndex := 335, attributes := #[] }] 49 4 #[] #[{ accessFlags := 25, nameIndex := 354, descriptorIndex := 339, attributes := #[] }, { accessFlags := 25, nameIndex := 358, descriptorIndex := 339, attributes := #[] }, { accessFlags := 25, nameIndex := 361, descriptorIndex := 339, attributes := #[] }, { accessFlags := 26, nameIndex := 364, descriptorIndex := 339, attributes := #[] }, { accessFlags := 26, nameIndex := 365, descriptorIndex := 339, attributes := #[] }, { accessFlags := 26, nameIndex := 172, descriptorIndex := 173, attributes := #[] }, { accessFlags := 26, nameIndex := 176, descriptorIndex := 173, attributes := #[] }, { accessFlags := 8, nameIndex := 344, descriptorIndex := 339, attributes := #[] }, { accessFlags := 8, nameIndex := 338, descriptorIndex := 339, attributes := #[] }, { accessFlags := 4120, nameIndex := 245, descriptorIndex := 246, attributes := #[] }])
  fields := #[{ name := "E", type := .double, accessFlags := 25, slot := 0, constantValue := 0 }, { name := "PI", type := .double, accessFlags := 25, slot := 1, constantValue := 0 }, { name := "TAU", type := .double, accessFlags := 25, slot := 2, constantValue := 0 }, { name := "DEGREES_TO_RADIANS", type := .double, accessFlags := 26, slot := 3, constantValue := 0 }, { name := "RADIANS_TO_DEGREES", type := .double, accessFlags := 26, slot := 4, constantValue := 0 }, { name := "negativeZeroFloatBits", type := .long, accessFlags := 26, slot := 5, constantValue := 0 }, { name := "negativeZeroDoubleBits", type := .long, accessFlags := 26, slot := 6, constantValue := 0 }, { name := "twoToTheDoubleScaleUp", type := .double, accessFlags := 8, slot := 7, constantValue := 0 }, { name := "twoToTheDoubleScaleDown", type := .double, accessFlags := 8, slot := 8, constantValue := 0 }, { name := "$assertionsDisabled", type := .boolean, accessFlags := 4120, slot := 9, constantValue := 0 }]
  methods := #[k3m0, k3m1]
  instanceTypes := #[]
  staticTypes := #[.double, .double, .double, .double, .double, .long, .long, .double, .double, .boolean]
  resolved := Array.replicate 460 none
  statics := none }

def pool4 : Array CpInfo := pool [(1, u "java/lang/Cloneable"), (0, .class_ 1), (0, u "java/lang/Object"), (0, .class_ 3)] 3

/-- java/lang/Cloneable -/
def k4 : Class := { plain "java/lang/Cloneable" (some 0) with
  accessFlags := 1537
  interfaces := #[]
  cf := some (fileOf pool4 2 #[] #[] 1537 4 #[] #[])
  fields := #[]
  methods := #[]
  instanceTypes := #[]
  staticTypes := #[]
  resolved := Array.replicate 8 none
  statics := none }

def pool5 : Array CpInfo := pool [(1, u "java/io/Serializable"), (0, .class_ 1), (0, u "java/lang/Object"), (0, .class_ 3)] 3

/-- java/io/Serializable -/
def k5 : Class := { plain "java/io/Serializable" (some 0) with
  accessFlags := 1537
  interfaces := #[]
  cf := some (fileOf pool5 2 #[] #[] 1537 4 #[] #[])
  fields := #[]
  methods := #[]
  instanceTypes := #[]
  staticTypes := #[]
  resolved := Array.replicate 8 none
  statics := none }

/-- the primitive byte -/
def k6 : Class := { plain "byte" none with kind := .primitive 'B', accessFlags := 0x411 }
/-- [B -/
def k7 : Class := { plain "[B" (some 0) with kind := .array 6 .byte, interfaces := #[4, 5], accessFlags := 1041 }

/-- the primitive int -/
def k8 : Class := { plain "int" none with kind := .primitive 'I', accessFlags := 0x411 }
/-- [I -/
def k9 : Class := { plain "[I" (some 0) with kind := .array 8 .int, interfaces := #[4, 5], accessFlags := 1041 }

def heap : Heap := #[]
def classes : Array Class := #[k0, k1, k2, k3, k4, k5, k6, k7, k8, k9]
def interned : List (Array UInt16 × Addr) := []
def slotsUsed : Nat := 0
def theMethod : MethodId := ⟨1, 3⟩
def args0 : Array Value := #[.int 4, .int 5, .int 7, .int 8, .int 9]
def aboutOver (below : List Frame) : State where
  vm := { classes := classes, interned := interned.toArray }
  heap := heap
  slotsUsed := slotsUsed
  threads := #[{ frames := .invoking theMethod args0 :: below }]
def below0 : List Frame := [.native { method := ⟨0, 0⟩, args := #[] }]
def about1 : State := aboutOver below0
def p0 : Program := .bare "" "" ""
def e0 : Env := launch0.env 0 0 0
theorem w_frames : about1.frames = Frame.invoking theMethod args0 :: below0 := rfl
set_option maxRecDepth 65536 in
theorem w_args : argsFit about1.vm theMethod args0 = true := by decide +kernel
set_option maxRecDepth 65536 in
theorem w_heap : heapFits about1 = true := by decide +kernel
set_option maxRecDepth 65536 in
theorem w_runnable : about1.curStatus? = some .runnable := by decide +kernel
set_option maxRecDepth 65536 in
theorem w_alone : about1.alone = true := by decide +kernel
set_option maxRecDepth 65536 in
theorem w_named : about1.methodNamed? x = some theMethod := by decide +kernel
set_option maxRecDepth 65536 in
theorem w_hears : about1.hears theMethod below0 = true := by decide +kernel
set_option maxRecDepth 65536 in
theorem w_ripe : about1.ripe theMethod args0 below0 = true := by decide +kernel
theorem w_running : about1.status = .running := rfl
set_option maxRecDepth 65536 in
theorem w_room : about1.hasRoom e0.platform room_1 = true :=
  launch0.hasRoom_least _ room_1 (by decide +kernel) (by decide +kernel) (by decide +kernel) (by decide +kernel) (by decide +kernel) (by decide +kernel)
theorem allAtoms_all (ts : List Jvm.Cond) (a : Array Jvm.Value) (st : Jvm.State) : (allAtoms ts).before a st = ts.all (fun c => c.before a st) := by
  induction ts with
  | nil => rfl
  | cons c t ih =>
    show (Jvm.Cond.and c (allAtoms t)).before a st = _
    rw [Jvm.Cond.before_and, ih, List.all_cons]
def words1 : List Jvm.Cond := Jvm.Cond.code x code maxLocals ret :: tables_1
/-- a 'code' word, met by the world's own term for the bytes: nothing is compared byte by byte -/
theorem code_word {y : MethodName} {bytes : ByteArray} {mx : Nat} {rt : Option FieldType} {a : Array Value} {s : State} {m : MethodId} {meth : Method} {c : Code} (h1 : s.methodNamed? y = some m) (h2 : s.vm.method? m = some meth) (h3 : meth.code = some c) (h4 : c.code = bytes)
    (h5 : (c.maxLocals == mx && c.exceptionTable.isEmpty && decide (c.maxStack ≤ mostOperands) && decide (meth.sig.returnType = rt) && !meth.locks && decide (parseMethodDescriptor y.desc = some meth.sig)) = true) : (Jvm.Cond.code y bytes mx rt).before a s = true := by
  simp only [Bool.and_eq_true, beq_iff_eq, Bool.not_eq_true', decide_eq_true_eq] at h5
  obtain ⟨⟨⟨⟨⟨g1, g2⟩, g3⟩, g4⟩, g5⟩, g6⟩ := h5
  simp [Cond.before, Cond.holds, Cond.value, h1, h2, h3, h4, g1, g2, g3, g4, g5, g6]
def isCode : Jvm.Cond → Bool
  | .code _ _ _ _ => true
  | _ => false
theorem all_split {L : List Jvm.Cond} {P : Jvm.Cond → Bool} (h1 : L.all (fun c => isCode c || P c) = true) (h2 : ∀ c ∈ L.filter isCode, P c = true) : L.all P = true := by
  refine List.all_eq_true.mpr fun c hc => ?_
  have h := List.all_eq_true.mp h1 c hc
  rcases Bool.eq_false_or_eq_true (isCode c) with hi | hi
  · exact h2 c (List.mem_filter.mpr ⟨hc, hi⟩)
  · simpa [hi] using h
set_option maxRecDepth 65536 in
theorem w_c0 : (Jvm.Cond.code x code maxLocals ret).before args0 about1 = true := code_word (m := ⟨1, 3⟩) (meth := k1m3) (c := k1c3) (by decide +kernel) rfl rfl rfl (by decide +kernel)
set_option maxRecDepth 65536 in
theorem w_c1 : (Jvm.Cond.code ({ cls := "com/example/reachability/reachability/CandidateList", name := "<init>", desc := "([I[I)V" } : Jvm.MethodName) prog_2_method_1_code (3 : Nat) (Option.none : Option Jvm.ClassFile.FieldType)).before args0 about1 = true := code_word (m := ⟨2, 0⟩) (meth := k2m0) (c := k2c0) (by decide +kernel) rfl rfl rfl (by decide +kernel)
set_option maxRecDepth 65536 in
theorem w_c2 : (Jvm.Cond.code ({ cls := "java/lang/Object", name := "<init>", desc := "()V" } : Jvm.MethodName) object_method_1_code (1 : Nat) (Option.none : Option Jvm.ClassFile.FieldType)).before args0 about1 = true := code_word (m := ⟨0, 0⟩) (meth := k0m0) (c := k0c0) (by decide +kernel) rfl rfl rfl (by decide +kernel)
set_option maxRecDepth 65536 in
theorem w_c3 : (Jvm.Cond.code ({ cls := "com/example/reachability/reachability/CandidateList", name := "bucketShift", desc := "([I)I" } : Jvm.MethodName) prog_2_method_2_code (3 : Nat) (Option.some Jvm.ClassFile.FieldType.int)).before args0 about1 = true := code_word (m := ⟨2, 1⟩) (meth := k2m1) (c := k2c1) (by decide +kernel) rfl rfl rfl (by decide +kernel)
set_option maxRecDepth 65536 in
theorem w_c4 : (Jvm.Cond.code ({ cls := "java/lang/Math", name := "max", desc := "(II)I" } : Jvm.MethodName) jdk_29_method_65_code (2 : Nat) (Option.some Jvm.ClassFile.FieldType.int)).before args0 about1 = true := code_word (m := ⟨3, 1⟩) (meth := k3m1) (c := k3c1) (by decide +kernel) rfl rfl rfl (by decide +kernel)
set_option maxRecDepth 65536 in
theorem w_c5 : (Jvm.Cond.code ({ cls := "com/example/reachability/reachability/CandidateList", name := "bucketStarts", desc := "([II)[I" } : Jvm.MethodName) prog_2_method_3_code (8 : Nat) (Option.some (Jvm.ClassFile.FieldType.array Jvm.ClassFile.FieldType.int))).before args0 about1 = true := code_word (m := ⟨2, 2⟩) (meth := k2m2) (c := k2c2) (by decide +kernel) rfl rfl rfl (by decide +kernel)
set_option maxRecDepth 65536 in
theorem w_c6 : (Jvm.Cond.code ({ cls := "com/example/reachability/reachability/CandidateList", name := "reset", desc := "(Z)V" } : Jvm.MethodName) prog_2_method_7_code (2 : Nat) (Option.none : Option Jvm.ClassFile.FieldType)).before args0 about1 = true := code_word (m := ⟨2, 3⟩) (meth := k2m3) (c := k2c3) (by decide +kernel) rfl rfl rfl (by decide +kernel)
set_option maxRecDepth 65536 in
theorem w_c7 : (Jvm.Cond.code ({ cls := "com/example/reachability/reachability/CandidateList", name := "find", desc := "(II)I" } : Jvm.MethodName) prog_2_method_12_code (5 : Nat) (Option.some Jvm.ClassFile.FieldType.int)).before args0 about1 = true := code_word (m := ⟨2, 5⟩) (meth := k2m5) (c := k2c5) (by decide +kernel) rfl rfl rfl (by decide +kernel)
set_option maxRecDepth 65536 in
theorem w_c8 : (Jvm.Cond.code ({ cls := "com/example/reachability/reachability/CandidateList", name := "first", desc := "(I)I" } : Jvm.MethodName) prog_2_method_19_code (3 : Nat) (Option.some Jvm.ClassFile.FieldType.int)).before args0 about1 = true := code_word (m := ⟨2, 8⟩) (meth := k2m8) (c := k2c8) (by decide +kernel) rfl rfl rfl (by decide +kernel)
set_option maxRecDepth 65536 in
theorem w_c9 : (Jvm.Cond.code ({ cls := "com/example/reachability/reachability/CandidateList", name := "open", desc := "(I)I" } : Jvm.MethodName) prog_2_method_21_code (5 : Nat) (Option.some Jvm.ClassFile.FieldType.int)).before args0 about1 = true := code_word (m := ⟨2, 10⟩) (meth := k2m10) (c := k2c10) (by decide +kernel) rfl rfl rfl (by decide +kernel)
set_option maxRecDepth 65536 in
theorem w_c10 : (Jvm.Cond.code ({ cls := "com/example/reachability/reachability/CandidateList", name := "numberOf", desc := "(I)I" } : Jvm.MethodName) prog_2_method_18_code (2 : Nat) (Option.some Jvm.ClassFile.FieldType.int)).before args0 about1 = true := code_word (m := ⟨2, 7⟩) (meth := k2m7) (c := k2c7) (by decide +kernel) rfl rfl rfl (by decide +kernel)
set_option maxRecDepth 65536 in
theorem w_c11 : (Jvm.Cond.code ({ cls := "com/example/reachability/reachability/CandidateList", name := "foundElements", desc := "()[I" } : Jvm.MethodName) prog_2_method_17_code (3 : Nat) (Option.some (Jvm.ClassFile.FieldType.array Jvm.ClassFile.FieldType.int))).before args0 about1 = true := code_word (m := ⟨2, 6⟩) (meth := k2m6) (c := k2c6) (by decide +kernel) rfl rfl rfl (by decide +kernel)
set_option maxRecDepth 65536 in
theorem w_c12 : (Jvm.Cond.code ({ cls := "com/example/reachability/reachability/CandidateListFoundElementsPinLaw", name := "in", desc := "(III)Z" } : Jvm.MethodName) method_2_code (3 : Nat) (Option.some Jvm.ClassFile.FieldType.boolean)).before args0 about1 = true := code_word (m := ⟨1, 1⟩) (meth := k1m1) (c := k1c1) (by decide +kernel) rfl rfl rfl (by decide +kernel)
set_option maxRecDepth 65536 in
theorem w_c13 : (Jvm.Cond.code ({ cls := "com/example/reachability/reachability/CandidateListFoundElementsPinLaw", name := "at", desc := "([I[III)Z" } : Jvm.MethodName) method_3_code (4 : Nat) (Option.some Jvm.ClassFile.FieldType.boolean)).before args0 about1 = true := code_word (m := ⟨1, 2⟩) (meth := k1m2) (c := k1c2) (by decide +kernel) rfl rfl rfl (by decide +kernel)
set_option maxRecDepth 65536 in
theorem w_c14 : (Jvm.Cond.code ({ cls := "com/example/reachability/reachability/CandidateList", name := "firstAtLeast", desc := "([IIII)I" } : Jvm.MethodName) prog_2_method_20_code (7 : Nat) (Option.some Jvm.ClassFile.FieldType.int)).before args0 about1 = true := code_word (m := ⟨2, 9⟩) (meth := k2m9) (c := k2c9) (by decide +kernel) rfl rfl rfl (by decide +kernel)
set_option maxRecDepth 65536 in
theorem w_c15 : (Jvm.Cond.code ({ cls := "com/example/reachability/reachability/CandidateList", name := "satisfied", desc := "()Z" } : Jvm.MethodName) prog_2_method_9_code (1 : Nat) (Option.some Jvm.ClassFile.FieldType.boolean)).before args0 about1 = true := code_word (m := ⟨2, 4⟩) (meth := k2m4) (c := k2c4) (by decide +kernel) rfl rfl rfl (by decide +kernel)
def codes1 : List Jvm.Cond := [Jvm.Cond.code x code maxLocals ret, Jvm.Cond.code ({ cls := "com/example/reachability/reachability/CandidateList", name := "<init>", desc := "([I[I)V" } : Jvm.MethodName) prog_2_method_1_code (3 : Nat) (Option.none : Option Jvm.ClassFile.FieldType), Jvm.Cond.code ({ cls := "java/lang/Object", name := "<init>", desc := "()V" } : Jvm.MethodName) object_method_1_code (1 : Nat) (Option.none : Option Jvm.ClassFile.FieldType), Jvm.Cond.code ({ cls := "com/example/reachability/reachability/CandidateList", name := "bucketShift", desc := "([I)I" } : Jvm.MethodName) prog_2_method_2_code (3 : Nat) (Option.some Jvm.ClassFile.FieldType.int), Jvm.Cond.code ({ cls := "java/lang/Math", name := "max", desc := "(II)I" } : Jvm.MethodName) jdk_29_method_65_code (2 : Nat) (Option.some Jvm.ClassFile.FieldType.int), Jvm.Cond.code ({ cls := "com/example/reachability/reachability/CandidateList", name := "bucketStarts", desc := "([II)[I" } : Jvm.MethodName) prog_2_method_3_code (8 : Nat) (Option.some (Jvm.ClassFile.FieldType.array Jvm.ClassFile.FieldType.int)), Jvm.Cond.code ({ cls := "com/example/reachability/reachability/CandidateList", name := "reset", desc := "(Z)V" } : Jvm.MethodName) prog_2_method_7_code (2 : Nat) (Option.none : Option Jvm.ClassFile.FieldType), Jvm.Cond.code ({ cls := "com/example/reachability/reachability/CandidateList", name := "find", desc := "(II)I" } : Jvm.MethodName) prog_2_method_12_code (5 : Nat) (Option.some Jvm.ClassFile.FieldType.int), Jvm.Cond.code ({ cls := "com/example/reachability/reachability/CandidateList", name := "first", desc := "(I)I" } : Jvm.MethodName) prog_2_method_19_code (3 : Nat) (Option.some Jvm.ClassFile.FieldType.int), Jvm.Cond.code ({ cls := "com/example/reachability/reachability/CandidateList", name := "open", desc := "(I)I" } : Jvm.MethodName) prog_2_method_21_code (5 : Nat) (Option.some Jvm.ClassFile.FieldType.int), Jvm.Cond.code ({ cls := "com/example/reachability/reachability/CandidateList", name := "numberOf", desc := "(I)I" } : Jvm.MethodName) prog_2_method_18_code (2 : Nat) (Option.some Jvm.ClassFile.FieldType.int), Jvm.Cond.code ({ cls := "com/example/reachability/reachability/CandidateList", name := "foundElements", desc := "()[I" } : Jvm.MethodName) prog_2_method_17_code (3 : Nat) (Option.some (Jvm.ClassFile.FieldType.array Jvm.ClassFile.FieldType.int)), Jvm.Cond.code ({ cls := "com/example/reachability/reachability/CandidateListFoundElementsPinLaw", name := "in", desc := "(III)Z" } : Jvm.MethodName) method_2_code (3 : Nat) (Option.some Jvm.ClassFile.FieldType.boolean), Jvm.Cond.code ({ cls := "com/example/reachability/reachability/CandidateListFoundElementsPinLaw", name := "at", desc := "([I[III)Z" } : Jvm.MethodName) method_3_code (4 : Nat) (Option.some Jvm.ClassFile.FieldType.boolean), Jvm.Cond.code ({ cls := "com/example/reachability/reachability/CandidateList", name := "firstAtLeast", desc := "([IIII)I" } : Jvm.MethodName) prog_2_method_20_code (7 : Nat) (Option.some Jvm.ClassFile.FieldType.int), Jvm.Cond.code ({ cls := "com/example/reachability/reachability/CandidateList", name := "satisfied", desc := "()Z" } : Jvm.MethodName) prog_2_method_9_code (1 : Nat) (Option.some Jvm.ClassFile.FieldType.boolean)]
set_option maxRecDepth 65536 in
theorem codes_eq : words1.filter isCode = codes1 := rfl
theorem w_codes : ∀ c ∈ words1.filter isCode, c.before args0 about1 = true := by
  rw [codes_eq]
  intro c hc
  simp only [codes1, List.mem_cons, List.not_mem_nil, or_false] at hc
  rcases hc with rfl | rfl | rfl | rfl | rfl | rfl | rfl | rfl | rfl | rfl | rfl | rfl | rfl | rfl | rfl | rfl
  · exact w_c0
  · exact w_c1
  · exact w_c2
  · exact w_c3
  · exact w_c4
  · exact w_c5
  · exact w_c6
  · exact w_c7
  · exact w_c8
  · exact w_c9
  · exact w_c10
  · exact w_c11
  · exact w_c12
  · exact w_c13
  · exact w_c14
  · exact w_c15
set_option maxRecDepth 65536 in
theorem w_t1 : (words1.take 24).all (fun c => isCode c || c.before args0 about1) = true := by decide +kernel
set_option maxRecDepth 65536 in
theorem w_t2 : ((words1.drop 24).take 24).all (fun c => isCode c || c.before args0 about1) = true := by decide +kernel
set_option maxRecDepth 65536 in
theorem w_t3 : (((words1.drop 24).drop 24).take 24).all (fun c => isCode c || c.before args0 about1) = true := by decide +kernel
set_option maxRecDepth 65536 in
theorem w_t4 : (((words1.drop 24).drop 24).drop 24).all (fun c => isCode c || c.before args0 about1) = true := by decide +kernel
theorem w_tables : (allAtoms (Jvm.Cond.code x code maxLocals ret :: tables_1)).before args0 about1 = true := by
  rw [allAtoms_all]
  show words1.all (fun c => c.before args0 about1) = true
  refine all_split ?_ w_codes
  rw [← List.take_append_drop 24 words1, List.all_append, w_t1, ← List.take_append_drop 24 (words1.drop 24), List.all_append, w_t2, ← List.take_append_drop 24 ((words1.drop 24).drop 24), List.all_append, w_t3, w_t4]
  rfl
set_option maxRecDepth 65536 in
theorem w_case : (Jvm.Cond.and given_1 narrow_1).before args0 about1 = true := by decide +kernel
theorem w_applies : (headSpec (Jvm.Cond.code x code maxLocals ret :: tables_1) room_1).applies x e0.platform about1 = true :=
  (Spec.applies_iff w_frames).mpr ⟨w_running, w_runnable, w_alone, w_named, w_hears, w_ripe, w_room, w_tables⟩
theorem atStart : AtStart classFile x code maxLocals ret World_1 tables_1 room_1 Calls_1 rest_1 Pre_1 launch0 p0 e0 about1 theMethod args0 below0 :=
  ⟨lists_1, trivial, launch0.admits_env _ _ _, launch0.least_env, fairChoices_fair.cas, fairChoices_fair.clock, w_frames, w_args, w_heap, w_applies, trivial, trivial, w_case⟩
end start1
theorem witness_1 : WitnessClaimed_1 := ⟨start1.p0, start1.e0, start1.about1, start1.theMethod, start1.args0, start1.below0, start1.atStart⟩
end Jvm.Pilot.@@N@@
