import JvmDerived
import JvmDerived.Pilot.@@N@@Statement
import JvmDerived.Pilot.@@N@@Code
set_option linter.unusedVariables false
set_option linter.unusedSimpArgs false
namespace Jvm.Pilot.@@N@@
open Jvm Jvm.ClassFile Sem Op Lib Jvm.Free Jvm.Stand Jvm.LawKit Jvm.RoadKit Bundle Jvm.Pilot.@@N@@.Jvm.D
/-! own layer: the run from a state ends in a return of which Q holds; one step leads from there to there -/
def own_ishl (x y : Int32) : Int32 := x <<< (y &&& 31)
def own_ishr (x y : Int32) : Int32 := x >>> (y &&& 31)
def own_iushr (x y : Int32) : Int32 := (x.toUInt32 >>> (y &&& 31).toUInt32).toInt32
def own_lshl (x : Int64) (y : Int32) : Int64 := x <<< (y &&& 0x3f).toInt64
def own_lshr (x : Int64) (y : Int32) : Int64 := x >>> (y &&& 0x3f).toInt64
def own_lushr (x : Int64) (y : Int32) : Int64 := (x.toUInt64 >>> (y &&& 0x3f).toInt64.toUInt64).toInt64
def own_i2b (x : Int32) : Int32 := x.toInt8.toInt32
def own_i2c (x : Int32) : Int32 := x.toUInt32.toUInt16.toUInt32.toInt32
def own_Fin (tb : Tables) (e : Env) (below : List Frame) (s : State) (Q : Option Value → Heap → List Loc → Prop) (k n : Nat) (t : State) : Prop :=
  ∃ s₂ o, Steps tb e below t s₂ ∧ s₂.status = .running ∧ Ended s₂ below o ∧ ∃ v L, o = .returned v ∧ Q v s₂.heap L ∧ FrameEnd s o s₂ L k n
theorem own_go {tb : Tables} {e : Env} {below : List Frame} {s : State} {Q : Option Value → Heap → List Loc → Prop} {k n : Nat} {t t' : State}
    (h : ∀ target, Steps tb e below t' target → Steps tb e below t target) (q : own_Fin tb e below s Q k n t') : own_Fin tb e below s Q k n t := by
  obtain ⟨s2, o, h1, h2⟩ := q
  exact ⟨s2, o, h _ h1, h2⟩
def own_QP (r : Option Value) (h0 : Heap) (n0 : Nat) (v : Option Value) (h : Heap) (L : List Loc) : Prop := v = r ∧ Fr n0 L ∧ h = h0
section OwnA
variable {p : Program} {l : Launch} {e : Env} {R : Room} {s : State} {m : MethodId} {args : Array Value} {below : List Frame} {meth : Method} {c : Code} {T : State} {locs : List Loc} {cells slots : Nat}
theorem own_mono (X : Stand p l e R s m args below meth c T locs cells slots) {k n : Nat} (hk : cells ≤ k) (hn : slots ≤ n) : Stand p l e R s m args below meth c T locs k n :=
  { X with same := X.same.mono hk hn }
theorem own_ret (X : Stand p l e R s m args below meth c T locs cells slots) (hx : p.tables.exec = Jvm.exec) (hlk : meth.locks = false) {pc : Nat} {Ls : Array Slot} {w : Value} {t : FieldType} {i : Instr} {rest : List Value} (hret : meth.sig.returnType = some t) (hn : narrow t w = w)
    (hi : (i = .ireturn ∧ (t = .int ∨ t = .boolean ∨ t = .byte ∨ t = .char ∨ t = .short) ∧ ∃ z, w = .int z) ∨ (i = .lreturn ∧ t = .long ∧ ∃ z, w = .long z) ∨ (i = .dreturn ∧ t = .double ∧ ∃ z, w = .double z) ∨ (i = .freturn ∧ t = .float ∧ ∃ z, w = .float z) ∨ (i = .areturn ∧ t.isReference = true ∧ w.isRef = true))
    (hd : decode c.code pc = .ok (i, 1)) {Q : Option Value → Heap → List Loc → Prop} {k n : Nat} (hk : cells ≤ k) (hs : slots ≤ n) (hQ : Q (some w) T.heap locs) :
    own_Fin p.tables e below s Q k n (T.setTop (mkF m pc Ls (w :: rest))) := by
  obtain ⟨fs, hr, hrun, hended, hW, hsame⟩ := X.leave (v := some w) (fun h => by rw [hret] at h; cases h) hlk
  exact ⟨_, _, retOut X hx hret hn hi hd hr, hrun, hended, _, _, rfl, hQ, ⟨_, rfl⟩, hW, hsame.mono hk hs⟩
theorem own_retV (X : Stand p l e R s m args below meth c T locs cells slots) (hx : p.tables.exec = Jvm.exec) (hlk : meth.locks = false) {pc : Nat} {Ls : Array Slot} (hret : meth.sig.returnType = none)
    (hd : decode c.code pc = .ok (.return_, 1)) {Q : Option Value → Heap → List Loc → Prop} {k n : Nat} (hk : cells ≤ k) (hs : slots ≤ n) (hQ : Q none T.heap locs) :
    own_Fin p.tables e below s Q k n (T.setTop (mkF m pc Ls [])) := by
  obtain ⟨fs, hr, hrun, hended, hW, hsame⟩ := X.leave (v := none) (fun _ => rfl) hlk
  exact ⟨_, _, X.returnOut hx hret hd hr, hrun, hended, _, _, rfl, hQ, ⟨_, rfl⟩, hW, hsame.mono hk hs⟩
end OwnA
theorem own_irem {tb : Tables} [Ours tb] {e : Env} {below : List Frame} {T target : State} {m : MethodId} {c : Code} {g : JFrame} (h : At T m c below) (hx : tb.exec = Jvm.exec) (hg : g.method = m) {x y : Int32} {rest : List Value} (hd : decode c.code g.pc = .ok (.irem, 1)) (hs : g.stack = .int y :: .int x :: rest) (hy : y ≠ 0)
    (hr : Steps tb e below (T.setTop { g with pc := g.pc + 1, stack := .int (x % y) :: rest }) target) : Steps tb e below (T.setTop g) target :=
  XS.irem h hx hg hd hs hy (by rw [irem_eq_mod x y]; exact hr)
theorem own_lrem {tb : Tables} [Ours tb] {e : Env} {below : List Frame} {T target : State} {m : MethodId} {c : Code} {g : JFrame} (h : At T m c below) (hx : tb.exec = Jvm.exec) (hg : g.method = m) {x y : Int64} {rest : List Value} (hd : decode c.code g.pc = .ok (.lrem, 1)) (hs : g.stack = .long y :: .long x :: rest) (hy : y ≠ 0)
    (hr : Steps tb e below (T.setTop { g with pc := g.pc + 1, stack := .long (x % y) :: rest }) target) : Steps tb e below (T.setTop g) target :=
  XS.lrem h hx hg hd hs hy (by rw [lrem_mod x y]; exact hr)
/-! arrays by a function of the place -/
def own_set {α : Type} (f : Nat → α) (j : Int32) (v : α) : Nat → α := fun i => if i = j.toNatClampNeg then v else f i
def own_Arf (Z : State) (h : Heap) (a : Addr) (ty : FieldType) (n : Int32) (f : Nat → Value) : Prop :=
  ∃ c : Cell, Arr Z h a c ty ∧ c.slots.size = n.toNatClampNeg ∧ ¬ n < 0 ∧ ∀ i, i < n.toNatClampNeg → c.slots[i]? = some (f i)
section OwnB
variable {Z : State} {h h' : Heap} {a b : Addr} {ty : FieldType} {n j : Int32} {f : Nat → Value} {ws : List Addr} {v : Value} {sl : Nat}
theorem own_Arf.lt (F : own_Arf Z h a ty n f) : a < h.size := by obtain ⟨c, A, -⟩ := F; exact A.lt
theorem own_Arf.ext (F : own_Arf Z h a ty n f) (E : Ext h h') : own_Arf Z h' a ty n f := by obtain ⟨c, A, r⟩ := F; exact ⟨c, A.ext E, r⟩
theorem own_Arf.other (F : own_Arf Z h b ty n f) (W : Wr h h' a sl v) (q : b ≠ a) : own_Arf Z h' b ty n f := by obtain ⟨c, A, r⟩ := F; exact ⟨c, A.other W q, r⟩
theorem own_Arf.keep (F : own_Arf Z h a ty n f) (K : Keep h h' ws) (q : a ∉ ws) : own_Arf Z h' a ty n f := by obtain ⟨c, A, r⟩ := F; exact ⟨c, ⟨K.2.1 a c A.1 q, A.2⟩, r⟩
theorem own_Arf.new {k : ClassId} (A : Arr Z h a (newA k ty n) ty) (q : ¬ n < 0) : own_Arf Z h a ty n (fun _ => defaultValue ty) :=
  ⟨_, A, sz_new _ _ _, q, fun i hi => by simp [newA, hi]⟩
theorem own_Arf.wr (F : own_Arf Z h a ty n f) (W : Wr h h' a j.toNatClampNeg v) : own_Arf Z h' a ty n (fun i => if i = j.toNatClampNeg then v else f i) := by
  obtain ⟨c, A, S, q, H⟩ := F
  refine ⟨_, A.same W, by rw [sz_set]; exact S, q, fun i hi => ?_⟩
  by_cases u : i = j.toNatClampNeg
  · subst u; simp [Cell.setSlot, S, hi]
  · simp only [if_neg u, Cell.setSlot]; rw [Array.getElem?_setIfInBounds_ne (Ne.symm u)]; exact H i hi
theorem own_Arf.fn {g : Nat → Value} (F : own_Arf Z h a ty n f) (q : ∀ i, i < n.toNatClampNeg → f i = g i) : own_Arf Z h a ty n g := by
  obtain ⟨c, A, S, q', H⟩ := F
  exact ⟨c, A, S, q', fun i hi => by rw [← q i hi]; exact H i hi⟩
variable {p : Program} {l : Launch} {e : Env} {R : Room} {s : State} {m : MethodId} {args : Array Value} {below : List Frame} {meth : Method} {c : Code} {T : State} {locs : List Loc} {cells slots : Nat} {g : JFrame} {rest : List Value}
theorem own_alen (X : Stand p l e R s m args below meth c T locs cells slots) (hx : p.tables.exec = Jvm.exec) (hZ : Z.Warmed39 s.vm) (eT : T.heap = h) (F : own_Arf Z h a ty n f) (hg : g.method = m) (hs : g.stack = .ref a :: rest) (hd : decode c.code g.pc = .ok (.arraylength, 1)) (target : State)
    (hr : Steps p.tables e below (T.setTop { g with pc := g.pc + 1, stack := .int n :: rest }) target) : Steps p.tables e below (T.setTop g) target := by
  obtain ⟨cl, A, S, q, H⟩ := F
  refine X.arraylength hx (by rw [eT]; exact A.1) (State.isArrayOf_alike hZ.alike A.2.1) hg hs hd _ ?_
  rw [len_of S q]; exact hr
theorem own_iaload (X : Stand p l e R s m args below meth c T locs cells slots) (hx : p.tables.exec = Jvm.exec) (hZ : Z.Warmed39 s.vm) (eT : T.heap = h) (F : own_Arf Z h a .int n f) (hj : ¬ j < 0 ∧ j < n) {x : Int32} (hv : f j.toNatClampNeg = .int x) (hg : g.method = m) (hs : g.stack = .int j :: .ref a :: rest) (hd : decode c.code g.pc = .ok (.iaload, 1)) (target : State)
    (hr : Steps p.tables e below (T.setTop { g with pc := g.pc + 1, stack := .int x :: rest }) target) : Steps p.tables e below (T.setTop g) target := by
  obtain ⟨cl, A, S, q, H⟩ := F
  have hin := inb_of S hj
  exact X.iaload hx (by rw [eT]; exact A.1) (State.isArrayOf_alike hZ.alike A.2.1) A.2.2 hin (by rw [H _ (by rw [← S]; omega), hv]) hg hs hd _ hr
theorem own_baload (X : Stand p l e R s m args below meth c T locs cells slots) (hx : p.tables.exec = Jvm.exec) (hZ : Z.Warmed39 s.vm) (eT : T.heap = h) (F : own_Arf Z h a .byte n f) (hj : ¬ j < 0 ∧ j < n) {x : Int32} (hv : f j.toNatClampNeg = .int x) (hg : g.method = m) (hs : g.stack = .int j :: .ref a :: rest) (hd : decode c.code g.pc = .ok (.baload, 1)) (target : State)
    (hr : Steps p.tables e below (T.setTop { g with pc := g.pc + 1, stack := .int x :: rest }) target) : Steps p.tables e below (T.setTop g) target := by
  obtain ⟨cl, A, S, q, H⟩ := F
  have hin := inb_of S hj
  exact X.baloadBytes hx (by rw [eT]; exact A.1) (State.isArrayOf_alike hZ.alike A.2.1) A.2.2 hin (by rw [H _ (by rw [← S]; omega), hv]) hg hs hd _ hr
theorem own_laload (X : Stand p l e R s m args below meth c T locs cells slots) (hx : p.tables.exec = Jvm.exec) (hZ : Z.Warmed39 s.vm) (eT : T.heap = h) (F : own_Arf Z h a .long n f) (hj : ¬ j < 0 ∧ j < n) {x : Int64} (hv : f j.toNatClampNeg = .long x) (hg : g.method = m) (hs : g.stack = .int j :: .ref a :: rest) (hd : decode c.code g.pc = .ok (.laload, 1)) (target : State)
    (hr : Steps p.tables e below (T.setTop { g with pc := g.pc + 1, stack := .long x :: rest }) target) : Steps p.tables e below (T.setTop g) target := by
  obtain ⟨cl, A, S, q, H⟩ := F
  have hin := inb_of S hj
  exact X.laload hx (by rw [eT]; exact A.1) (State.isArrayOf_alike hZ.alike A.2.1) A.2.2 hin (by rw [H _ (by rw [← S]; omega), hv]) hg hs hd _ hr
theorem own_stI (X : Stand p l e R s m args below meth c T locs cells slots) (hx : p.tables.exec = Jvm.exec) (hZ : Z.Warmed39 s.vm) (eT : T.heap = h) {q : Nat → Int32} (F : own_Arf Z h a .int n (fun i => .int (q i))) (hj : ¬ j < 0 ∧ j < n) {x : Int32} (hg : g.method = m) (hs : g.stack = .int x :: .int j :: .ref a :: rest) (hd : decode c.code g.pc = .ok (.iastore, 1)) :
    ∃ T' h', Stand p l e R s m args below meth c T' (locs ++ [⟨a, j.toNatClampNeg⟩]) cells slots ∧ T'.heap = h' ∧ Wr h h' a j.toNatClampNeg (.int x) ∧ own_Arf Z h' a .int n (fun i => .int (own_set q j x i)) ∧ ∀ target, Steps p.tables e below (T'.setTop { g with pc := g.pc + 1, stack := rest }) target → Steps p.tables e below (T.setTop g) target := by
  obtain ⟨cl, A, S, q1, H⟩ := F
  obtain ⟨T', h', X', e', W, st⟩ := stI X hx hZ eT A (inb_of S hj) hg hs hd
  refine ⟨T', h', X', e', W, (own_Arf.wr ⟨cl, A, S, q1, H⟩ W).fn fun i hi => ?_, st⟩
  simp only [own_set]; split <;> rfl
theorem own_stB (X : Stand p l e R s m args below meth c T locs cells slots) (hx : p.tables.exec = Jvm.exec) (hZ : Z.Warmed39 s.vm) (eT : T.heap = h) {q : Nat → Int32} (F : own_Arf Z h a .byte n (fun i => .int (q i))) (hj : ¬ j < 0 ∧ j < n) {x : Int32} (hg : g.method = m) (hs : g.stack = .int x :: .int j :: .ref a :: rest) (hd : decode c.code g.pc = .ok (.bastore, 1)) :
    ∃ T' h', Stand p l e R s m args below meth c T' (locs ++ [⟨a, j.toNatClampNeg⟩]) cells slots ∧ T'.heap = h' ∧ Wr h h' a j.toNatClampNeg (.int (own_i2b x)) ∧ own_Arf Z h' a .byte n (fun i => .int (own_set q j (own_i2b x) i)) ∧ ∀ target, Steps p.tables e below (T'.setTop { g with pc := g.pc + 1, stack := rest }) target → Steps p.tables e below (T.setTop g) target := by
  obtain ⟨cl, A, S, q1, H⟩ := F
  obtain ⟨T', h', X', e', W, st⟩ := stB X hx hZ eT A (inb_of S hj) hg hs hd
  refine ⟨T', h', X', e', W, (own_Arf.wr ⟨cl, A, S, q1, H⟩ W).fn fun i hi => ?_, st⟩
  simp only [own_set]; split <;> rfl
theorem own_stJ (X : Stand p l e R s m args below meth c T locs cells slots) (hx : p.tables.exec = Jvm.exec) (hZ : Z.Warmed39 s.vm) (eT : T.heap = h) {q : Nat → Int64} (F : own_Arf Z h a .long n (fun i => .long (q i))) (hj : ¬ j < 0 ∧ j < n) {x : Int64} (hg : g.method = m) (hs : g.stack = .long x :: .int j :: .ref a :: rest) (hd : decode c.code g.pc = .ok (.lastore, 1)) :
    ∃ T' h', Stand p l e R s m args below meth c T' (locs ++ [⟨a, j.toNatClampNeg⟩]) cells slots ∧ T'.heap = h' ∧ Wr h h' a j.toNatClampNeg (.long x) ∧ own_Arf Z h' a .long n (fun i => .long (own_set q j x i)) ∧ ∀ target, Steps p.tables e below (T'.setTop { g with pc := g.pc + 1, stack := rest }) target → Steps p.tables e below (T.setTop g) target := by
  obtain ⟨cl, A, S, q1, H⟩ := F
  obtain ⟨T', h', X', e', W, st⟩ := stJ X hx hZ eT A (inb_of S hj) hg hs hd
  refine ⟨T', h', X', e', W, (own_Arf.wr ⟨cl, A, S, q1, H⟩ W).fn fun i hi => ?_, st⟩
  simp only [own_set]; split <;> rfl
end OwnB
def own_QL (r : Option Value) (n0 : Nat) (v : Option Value) (h : Heap) (L : List Loc) : Prop := v = r ∧ Fr n0 L ∧ True
theorem own_ne_arf {Z : State} {h : Heap} {a b : Addr} {C : String} {ty : FieldType} {n : Int32} {f : Nat → Value} {a0 : Array Value} {k : Nat} (F : Exa Z h a C) (wi : (Cond.instantiable C k).before a0 Z = true) (G : own_Arf Z h b ty n f) : a ≠ b := by
  obtain ⟨c, A, -⟩ := G; exact ne_arr F wi A
def own_Two (a b : Slot) : Prop := (a = .unset ∧ b = .unset) ∨ ∃ x : Int64, a = .val (.long x) ∧ b = .second
theorem d2_0 : decode jdk_29_method_70_code 0 = .ok (.lload_n 0, 1) := by decide +kernel
theorem d2_1 : decode jdk_29_method_70_code 1 = .ok (.lload_n 2, 1) := by decide +kernel
theorem d2_2 : decode jdk_29_method_70_code 2 = .ok (.lcmp, 1) := by decide +kernel
theorem d2_3 : decode jdk_29_method_70_code 3 = .ok (.ifCond .gt 7, 3) := by decide +kernel
theorem d2_6 : decode jdk_29_method_70_code 6 = .ok (.lload_n 0, 1) := by decide +kernel
theorem d2_7 : decode jdk_29_method_70_code 7 = .ok (.goto 4, 3) := by decide +kernel
theorem d2_10 : decode jdk_29_method_70_code 10 = .ok (.lload_n 2, 1) := by decide +kernel
theorem d2_11 : decode jdk_29_method_70_code 11 = .ok (.lreturn, 1) := by decide +kernel
theorem ef_2 (m : MethodId) (q0 : Int64) (q1 : Int64) : entryFrame m #[(.long q0), (.long q1)] 4 = mkF m 0 #[.val (.long q0), .second, .val (.long q1), .second] [] := by first | (simp [entryFrame, mkF, argsToLocals, Value.category]; done) | rfl
def own_rm2_room : Room := { frames := 0, cells := 0, slots := 0, locals := 0 }
def own_f2 (q0 : Int64) (q1 : Int64) : Int64 := (if q1 < q0 then (q1) else (q0))
theorem own_lf_own_f2_1 {q0 : Int64} {q1 : Int64} (hc1 : q1 < q0) : (some (.long q1) : Option Value) = some (.long (own_f2 q0 q1)) := by
  first | (simp only [own_f2, if_pos hc1]; done) | (simp only [own_f2, if_pos hc1]; rfl) | rfl
theorem own_lf_own_f2_2 {q0 : Int64} {q1 : Int64} (hc1 : ¬ (q1 < q0)) : (some (.long q0) : Option Value) = some (.long (own_f2 q0 q1)) := by
  first | (simp only [own_f2, if_neg hc1]; done) | (simp only [own_f2, if_neg hc1]; rfl) | rfl
set_option maxRecDepth 65536 in
set_option maxHeartbeats 40000000 in
theorem rm2 (l : Launch) (Z : State) (a0 : Array Value) (hw : ∀ d ∈ tables_1, d.before a0 Z = true) (ws : List Jvm.Cond) (q0 : Int64) (q1 : Int64) (h0 : Heap) (n0 : Nat) (Z0 : n0 ≤ h0.size) :
    MetFree l (⟨"java/lang/Math", "min", "(JJ)J"⟩ : MethodName) (head1 (Jvm.Cond.code (⟨"java/lang/Math", "min", "(JJ)J"⟩ : MethodName) jdk_29_method_70_code 4 (some .long) :: ws) own_rm2_room) (fun a U => a = #[(.long q0), (.long q1)] ∧ Z.Warmed39 U.vm ∧ U.heap = h0) (fun _ _ _ _ _ => True) (fun _ U o U' => ∃ v L, o = .returned v ∧ own_QP (some (.long (own_f2 q0 q1))) h0 n0 v U'.heap L ∧ FrameEnd U o U' L own_rm2_room.cells own_rm2_room.slots) := by
  refine MetFree.of_bodySF (Jvm.Free.JP.mathPlain rfl (by decide +kernel)) hisR ?_
  intro p e s m args below meth c s₁ Bd hml0 hP hK
  obtain ⟨rfl, hZ, hh⟩ := hP
  have hx := Bd.exec
  have hby := Bd.bytes
  have hml : c.maxLocals = 4 := hml0
  have hown : s.vm.findClass "java/lang/Math" = some m.cls := findClass_of_methodNamed Bd.named
  have hnm := (name_of_methodNamed Bd.named Bd.method).1
  have hlk : meth.locks = false := BodyLoose.notSynchronized Bd
  have X0 : Stand p l e own_rm2_room s m #[(.long q0), (.long q1)] below meth c s₁ [] 0 0 := Stand.of_body Bd
  have e0 : s₁.heap = h0 := by rw [← hh, Bd.state]; rfl
  have N0 := Fr.nil n0
  show own_Fin p.tables e below s (own_QP (some (.long (own_f2 q0 q1))) h0 n0) own_rm2_room.cells own_rm2_room.slots (s₁.setTop (entryFrame m #[(.long q0), (.long q1)] 4))
  rw [ef_2]
  show own_Fin _ _ _ _ _ _ _ (s₁.setTop (mkF m 0 #[.val (.long q0), .second, .val (.long q1), .second] []))
  refine own_go (fun _ k => XS.lloadN X0.here hx rfl (hb hby d2_0) rfl k) ?_
  show own_Fin _ _ _ _ _ _ _ (s₁.setTop (mkF m 1 #[.val (.long q0), .second, .val (.long q1), .second] [(.long q0)]))
  refine own_go (fun _ k => XS.lloadN X0.here hx rfl (hb hby d2_1) rfl k) ?_
  show own_Fin _ _ _ _ _ _ _ (s₁.setTop (mkF m 2 #[.val (.long q0), .second, .val (.long q1), .second] [(.long q1), (.long q0)]))
  refine own_go (fun _ k => XS.lcmp X0.here hx rfl (hb hby d2_2) rfl k) ?_
  show own_Fin _ _ _ _ _ _ _ (s₁.setTop (mkF m 3 #[.val (.long q0), .second, .val (.long q1), .second] [(.int (lcmpW q0 q1))]))
  by_cases hc1 : q1 < q0
  · refine own_go (fun _ k => XS.ifYes X0.here hx rfl (pc0 := 3) (pc' := 10) rfl (hb hby d2_3) rfl ((if0 _ _).trans (tlt ((lw_gt _ _).mpr hc1)).2.2.1) (by decide) (by decide) k) ?_
    show own_Fin _ _ _ _ _ _ _ (s₁.setTop (mkF m 10 #[.val (.long q0), .second, .val (.long q1), .second] []))
    refine own_go (fun _ k => XS.lloadN X0.here hx rfl (hb hby d2_10) rfl k) ?_
    show own_Fin _ _ _ _ _ _ _ (s₁.setTop (mkF m 11 #[.val (.long q0), .second, .val (.long q1), .second] [(.long q1)]))
    refine own_ret X0 hx hlk Bd.returns rfl (Or.inr (Or.inl ⟨rfl, rfl, _, rfl⟩)) (hb hby d2_11) (Nat.le_of_ble_eq_true rfl) (Nat.le_of_ble_eq_true rfl) ?_
    exact ⟨(own_lf_own_f2_1 (q0 := q0) (q1 := q1) hc1), N0, e0⟩
  · refine own_go (fun _ k => XS.ifNo X0.here hx rfl (hb hby d2_3) rfl ((if0 _ _).trans (flt (mt (lw_gt _ _).mp hc1)).2.2.1) k) ?_
    show own_Fin _ _ _ _ _ _ _ (s₁.setTop (mkF m 6 #[.val (.long q0), .second, .val (.long q1), .second] []))
    refine own_go (fun _ k => XS.lloadN X0.here hx rfl (hb hby d2_6) rfl k) ?_
    show own_Fin _ _ _ _ _ _ _ (s₁.setTop (mkF m 7 #[.val (.long q0), .second, .val (.long q1), .second] [(.long q0)]))
    refine own_go (fun _ k => XS.goto X0.here hx rfl (pc0 := 7) (pc' := 11) rfl (hb hby d2_7) (by decide) (by decide) k) ?_
    show own_Fin _ _ _ _ _ _ _ (s₁.setTop (mkF m 11 #[.val (.long q0), .second, .val (.long q1), .second] [(.long q0)]))
    refine own_ret X0 hx hlk Bd.returns rfl (Or.inr (Or.inl ⟨rfl, rfl, _, rfl⟩)) (hb hby d2_11) (Nat.le_of_ble_eq_true rfl) (Nat.le_of_ble_eq_true rfl) ?_
    exact ⟨(own_lf_own_f2_2 (q0 := q0) (q1 := q1) hc1), N0, e0⟩
theorem own_pd9 : parseMethodDescriptor "(JJ)J" = some ⟨[.long, .long], some .long⟩ := by decide +kernel
theorem d1_0 : decode method_3_code 0 = .ok (.lload_n 1, 1) := by decide +kernel
theorem d1_1 : decode method_3_code 1 = .ok (.iconst 4, 1) := by decide +kernel
theorem d1_2 : decode method_3_code 2 = .ok (.iload_n 3, 1) := by decide +kernel
theorem d1_3 : decode method_3_code 3 = .ok (.imul, 1) := by decide +kernel
theorem d1_4 : decode method_3_code 4 = .ok (.lushr, 1) := by decide +kernel
theorem d1_5 : decode method_3_code 5 = .ok (.ldc2_w 25, 3) := by decide +kernel
theorem d1_8 : decode method_3_code 8 = .ok (.land, 1) := by decide +kernel
theorem d1_9 : decode method_3_code 9 = .ok (.iload 4, 2) := by decide +kernel
theorem d1_11 : decode method_3_code 11 = .ok (.lshl, 1) := by decide +kernel
theorem d1_12 : decode method_3_code 12 = .ok (.lstore 5, 2) := by decide +kernel
theorem d1_14 : decode method_3_code 14 = .ok (.iload_n 0, 1) := by decide +kernel
theorem d1_15 : decode method_3_code 15 = .ok (.i2l, 1) := by decide +kernel
theorem d1_16 : decode method_3_code 16 = .ok (.lload 5, 2) := by decide +kernel
theorem d1_18 : decode method_3_code 18 = .ok (.ladd, 1) := by decide +kernel
theorem d1_19 : decode method_3_code 19 = .ok (.ldc2_w 29, 3) := by decide +kernel
theorem d1_22 : decode method_3_code 22 = .ok (.invokestatic 31, 3) := by decide +kernel
theorem d1_25 : decode method_3_code 25 = .ok (.l2i, 1) := by decide +kernel
theorem d1_26 : decode method_3_code 26 = .ok (.ireturn, 1) := by decide +kernel
theorem pn_1 : plainName "com/example/reachability/reachability/CandidateListFirstAtLeastPinLaw" = true := by first | (simp [plainName, overriddenIn]; done) | decide +kernel
theorem ef_1 (m : MethodId) (p0 : Int32) (q1 : Int64) (p2 : Int32) (p3 : Int32) : entryFrame m #[(.int p0), (.long q1), (.int p2), (.int p3)] 7 = mkF m 0 #[.val (.int p0), .val (.long q1), .second, .val (.int p2), .val (.int p3), .unset, .unset] [] := by first | (simp [entryFrame, mkF, argsToLocals, Value.category]; done) | rfl
def own_rm1_room : Room := { frames := 1, cells := 0, slots := 0, locals := 15 }
def own_f1 (p0 : Int32) (q1 : Int64) (p2 : Int32) (p3 : Int32) : Int32 := let z1 := (own_lshl ((own_lushr q1 ((4 : Int32) * p2)) &&& (15 : Int64)) p3); ((own_f2 ((p0.toInt64) + z1) (2147483647 : Int64)).toInt32)
theorem own_lf_own_f1_1 {p0 : Int32} {q1 : Int64} {p2 : Int32} {p3 : Int32} {z1 : Int64} (hz1 : (own_lshl ((own_lushr q1 ((4 : Int32) * p2)) &&& (15 : Int64)) p3) = z1) : (some (.int ((own_f2 ((p0.toInt64) + z1) (2147483647 : Int64)).toInt32)) : Option Value) = some (.int (own_f1 p0 q1 p2 p3)) := by
  subst hz1
  first | rfl | (simp only [own_f1]; done) | (simp only [own_f1]; rfl)
set_option maxRecDepth 65536 in
set_option maxHeartbeats 40000000 in
theorem rm1 (l : Launch) (Z : State) (a0 : Array Value) (hw : ∀ d ∈ tables_1, d.before a0 Z = true) (ws : List Jvm.Cond) (p0 : Int32) (q1 : Int64) (p2 : Int32) (p3 : Int32) (h0 : Heap) (n0 : Nat) (Z0 : n0 ≤ h0.size) :
    MetFree l (⟨"com/example/reachability/reachability/CandidateListFirstAtLeastPinLaw", "next", "(IJII)I"⟩ : MethodName) (head1 (Jvm.Cond.code (⟨"com/example/reachability/reachability/CandidateListFirstAtLeastPinLaw", "next", "(IJII)I"⟩ : MethodName) method_3_code 7 (some .int) :: ws) own_rm1_room) (fun a U => a = #[(.int p0), (.long q1), (.int p2), (.int p3)] ∧ Z.Warmed39 U.vm ∧ U.heap = h0) (fun _ _ _ _ _ => True) (fun _ U o U' => ∃ v L, o = .returned v ∧ own_QP (some (.int (own_f1 p0 q1 p2 p3))) h0 n0 v U'.heap L ∧ FrameEnd U o U' L own_rm1_room.cells own_rm1_room.slots) := by
  refine MetFree.of_bodySF (plainFor_of_name pn_1) hisR ?_
  intro p e s m args below meth c s₁ Bd hml0 hP hK
  obtain ⟨rfl, hZ, hh⟩ := hP
  have hx := Bd.exec
  have hby := Bd.bytes
  have hml : c.maxLocals = 7 := hml0
  have hown : s.vm.findClass "com/example/reachability/reachability/CandidateListFirstAtLeastPinLaw" = some m.cls := findClass_of_methodNamed Bd.named
  have hnm := (name_of_methodNamed Bd.named Bd.method).1
  have hlk : meth.locks = false := BodyLoose.notSynchronized Bd
  have X0 : Stand p l e own_rm1_room s m #[(.int p0), (.long q1), (.int p2), (.int p3)] below meth c s₁ [] 0 0 := Stand.of_body Bd
  have e0 : s₁.heap = h0 := by rw [← hh, Bd.state]; rfl
  have N0 := Fr.nil n0
  show own_Fin p.tables e below s (own_QP (some (.int (own_f1 p0 q1 p2 p3))) h0 n0) own_rm1_room.cells own_rm1_room.slots (s₁.setTop (entryFrame m #[(.int p0), (.long q1), (.int p2), (.int p3)] 7))
  rw [ef_1]
  show own_Fin _ _ _ _ _ _ _ (s₁.setTop (mkF m 0 #[.val (.int p0), .val (.long q1), .second, .val (.int p2), .val (.int p3), .unset, .unset] []))
  refine own_go (fun _ k => XS.lloadN X0.here hx rfl (hb hby d1_0) rfl k) ?_
  show own_Fin _ _ _ _ _ _ _ (s₁.setTop (mkF m 1 #[.val (.int p0), .val (.long q1), .second, .val (.int p2), .val (.int p3), .unset, .unset] [(.long q1)]))
  refine own_go (fun _ k => XS.iconst X0.here hx rfl (hb hby d1_1) k) ?_
  show own_Fin _ _ _ _ _ _ _ (s₁.setTop (mkF m 2 #[.val (.int p0), .val (.long q1), .second, .val (.int p2), .val (.int p3), .unset, .unset] [(.int (4 : Int32)), (.long q1)]))
  refine own_go (fun _ k => XS.iloadN X0.here hx rfl (hb hby d1_2) rfl k) ?_
  show own_Fin _ _ _ _ _ _ _ (s₁.setTop (mkF m 3 #[.val (.int p0), .val (.long q1), .second, .val (.int p2), .val (.int p3), .unset, .unset] [(.int p2), (.int (4 : Int32)), (.long q1)]))
  refine own_go (fun _ k => XS.imul X0.here hx rfl (hb hby d1_3) rfl k) ?_
  show own_Fin _ _ _ _ _ _ _ (s₁.setTop (mkF m 4 #[.val (.int p0), .val (.long q1), .second, .val (.int p2), .val (.int p3), .unset, .unset] [(.int ((4 : Int32) * p2)), (.long q1)]))
  refine own_go (fun _ k => XS.lushr X0.here hx rfl (hb hby d1_4) rfl k) ?_
  show own_Fin _ _ _ _ _ _ _ (s₁.setTop (mkF m 5 #[.val (.int p0), .val (.long q1), .second, .val (.int p2), .val (.int p3), .unset, .unset] [(.long (own_lushr q1 ((4 : Int32) * p2)))]))
  refine own_go (fun _ k => X0.ldc2Long hx hown (mvT hZ (hw _ (List.mem_of_getElem? (i := 6) rfl))) (g := (mkF m 5 #[.val (.int p0), .val (.long q1), .second, .val (.int p2), .val (.int p3), .unset, .unset] [(.long (own_lushr q1 ((4 : Int32) * p2)))])) rfl (hb hby d1_5) _ k) ?_
  show own_Fin _ _ _ _ _ _ _ (s₁.setTop (mkF m 8 #[.val (.int p0), .val (.long q1), .second, .val (.int p2), .val (.int p3), .unset, .unset] [(.long (15 : Int64)), (.long (own_lushr q1 ((4 : Int32) * p2)))]))
  refine own_go (fun _ k => XS.land X0.here hx rfl (hb hby d1_8) rfl k) ?_
  show own_Fin _ _ _ _ _ _ _ (s₁.setTop (mkF m 9 #[.val (.int p0), .val (.long q1), .second, .val (.int p2), .val (.int p3), .unset, .unset] [(.long ((own_lushr q1 ((4 : Int32) * p2)) &&& (15 : Int64)))]))
  refine own_go (fun _ k => XS.iload X0.here hx rfl (hb hby d1_9) rfl k) ?_
  show own_Fin _ _ _ _ _ _ _ (s₁.setTop (mkF m 11 #[.val (.int p0), .val (.long q1), .second, .val (.int p2), .val (.int p3), .unset, .unset] [(.int p3), (.long ((own_lushr q1 ((4 : Int32) * p2)) &&& (15 : Int64)))]))
  refine own_go (fun _ k => XS.lshl X0.here hx rfl (hb hby d1_11) rfl k) ?_
  show own_Fin _ _ _ _ _ _ _ (s₁.setTop (mkF m 12 #[.val (.int p0), .val (.long q1), .second, .val (.int p2), .val (.int p3), .unset, .unset] [(.long (own_lshl ((own_lushr q1 ((4 : Int32) * p2)) &&& (15 : Int64)) p3))]))
  refine own_go (fun _ k => XS.lstore X0.here hx rfl (hb hby d1_12) rfl (l' := #[.val (.int p0), .val (.long q1), .second, .val (.int p2), .val (.int p3), .val (.long (own_lshl ((own_lushr q1 ((4 : Int32) * p2)) &&& (15 : Int64)) p3)), .second]) rfl k) ?_
  show own_Fin _ _ _ _ _ _ _ (s₁.setTop (mkF m 14 #[.val (.int p0), .val (.long q1), .second, .val (.int p2), .val (.int p3), .val (.long (own_lshl ((own_lushr q1 ((4 : Int32) * p2)) &&& (15 : Int64)) p3)), .second] []))
  generalize hz1 : (own_lshl ((own_lushr q1 ((4 : Int32) * p2)) &&& (15 : Int64)) p3) = z1
  show own_Fin _ _ _ _ _ _ _ (s₁.setTop (mkF m 14 #[.val (.int p0), .val (.long q1), .second, .val (.int p2), .val (.int p3), .val (.long z1), .second] []))
  refine own_go (fun _ k => XS.iloadN X0.here hx rfl (hb hby d1_14) rfl k) ?_
  show own_Fin _ _ _ _ _ _ _ (s₁.setTop (mkF m 15 #[.val (.int p0), .val (.long q1), .second, .val (.int p2), .val (.int p3), .val (.long z1), .second] [(.int p0)]))
  refine own_go (fun _ k => XS.i2l X0.here hx rfl (hb hby d1_15) rfl k) ?_
  show own_Fin _ _ _ _ _ _ _ (s₁.setTop (mkF m 16 #[.val (.int p0), .val (.long q1), .second, .val (.int p2), .val (.int p3), .val (.long z1), .second] [(.long (p0.toInt64))]))
  refine own_go (fun _ k => XS.lload X0.here hx rfl (hb hby d1_16) rfl k) ?_
  show own_Fin _ _ _ _ _ _ _ (s₁.setTop (mkF m 18 #[.val (.int p0), .val (.long q1), .second, .val (.int p2), .val (.int p3), .val (.long z1), .second] [(.long z1), (.long (p0.toInt64))]))
  refine own_go (fun _ k => XS.ladd X0.here hx rfl (hb hby d1_18) rfl k) ?_
  show own_Fin _ _ _ _ _ _ _ (s₁.setTop (mkF m 19 #[.val (.int p0), .val (.long q1), .second, .val (.int p2), .val (.int p3), .val (.long z1), .second] [(.long ((p0.toInt64) + z1))]))
  refine own_go (fun _ k => X0.ldc2Long hx hown (mvT hZ (hw _ (List.mem_of_getElem? (i := 7) rfl))) (g := (mkF m 19 #[.val (.int p0), .val (.long q1), .second, .val (.int p2), .val (.int p3), .val (.long z1), .second] [(.long ((p0.toInt64) + z1))])) rfl (hb hby d1_19) _ k) ?_
  show own_Fin _ _ _ _ _ _ _ (s₁.setTop (mkF m 22 #[.val (.int p0), .val (.long q1), .second, .val (.int p2), .val (.int p3), .val (.long z1), .second] [(.long (2147483647 : Int64)), (.long ((p0.toInt64) + z1))]))
  obtain ⟨_, _, ⟨T2, L2, k2, n2⟩, -, X2, ⟨Lc2, hQ2, l2, y2, z2⟩, st2⟩ := Jvm.LawKit.callS X0 hx (y := (⟨"java/lang/Math", "min", "(JJ)J"⟩ : MethodName)) hown (mvT hZ (hw _ (List.mem_of_getElem? (i := 8) rfl))) (mvT hZ (hw _ (List.mem_of_getElem? (i := 9) rfl))) (mvT hZ (hw _ (List.mem_of_getElem? (i := 10) rfl))) (mvT hZ (hw _ (List.mem_of_getElem? (i := 11) rfl))) (by decide) (backOf (W := 0) (rm2 l Z a0 hw [] ((p0.toInt64) + z1) (2147483647 : Int64) h0 n0 Z0) hZ (hw _ (List.mem_of_getElem? (i := 11) rfl)) (hw _ (List.mem_of_getElem? (i := 10) rfl)) (by decide) (by decide)) (g := (mkF m 22 #[.val (.int p0), .val (.long q1), .second, .val (.int p2), .val (.int p3), .val (.long z1), .second] [(.long (2147483647 : Int64)), (.long ((p0.toInt64) + z1))])) rfl (by rw [hml]; rfl) (argsL := [(.long ((p0.toInt64) + z1)), (.long (2147483647 : Int64))]) (rest := []) (lenOf own_pd9 rfl) rfl (by show 2 * 0 + _ ≤ _; exact Nat.le_of_eq rfl) (hb hby d1_22) (fun _ _ => ⟨rfl, e0, (by decide : 0 + 0 ≤ _), (by decide : 0 + 0 ≤ _)⟩)
  dsimp only [Pt.U, Pt.locs, Pt.cells, Pt.slots] at X2 l2 y2 z2 st2 hQ2
  replace y2 : 0 = k2 := y2.symm
  replace z2 : 0 = n2 := z2.symm
  subst y2 z2
  obtain ⟨rfl, N2q, e2⟩ := hQ2
  have N2 : Fr n0 L2 := by rw [l2]; exact Fr.app N0 N2q
  refine own_go (fun tg k => st2 tg k) ?_
  show own_Fin _ _ _ _ _ _ _ (T2.setTop (mkF m 25 #[.val (.int p0), .val (.long q1), .second, .val (.int p2), .val (.int p3), .val (.long z1), .second] [(.long (own_f2 ((p0.toInt64) + z1) (2147483647 : Int64)))]))
  refine own_go (fun _ k => XS.l2i X2.here hx rfl (hb hby d1_25) rfl k) ?_
  show own_Fin _ _ _ _ _ _ _ (T2.setTop (mkF m 26 #[.val (.int p0), .val (.long q1), .second, .val (.int p2), .val (.int p3), .val (.long z1), .second] [(.int ((own_f2 ((p0.toInt64) + z1) (2147483647 : Int64)).toInt32))]))
  refine own_ret X2 hx hlk Bd.returns rfl (Or.inl ⟨rfl, by simp, _, rfl⟩) (hb hby d1_26) (Nat.le_of_ble_eq_true rfl) (Nat.le_of_ble_eq_true rfl) ?_
  exact ⟨(own_lf_own_f1_1 (p0 := p0) (q1 := q1) (p2 := p2) (p3 := p3) hz1), N2, e2⟩
def own_fal (g : Nat → Int32) (v : Int32) : Nat → Int32 → Int32 → Int32
  | 0, lo, _ => lo
  | k + 1, lo, hi => if lo < hi then (if g (own_iushr (lo + hi) (1 : Int32)).toNatClampNeg < v then own_fal g v k ((own_iushr (lo + hi) (1 : Int32)) + (1 : Int32)) hi else own_fal g v k lo (own_iushr (lo + hi) (1 : Int32))) else lo
def own_falE (g : Nat → Int32) (v : Int32) (lo hi : Int32) : Int32 := own_fal g v (hi.toInt - lo.toInt).toNat lo hi
theorem own_midv {lo hi : Int32} (h0 : ¬ lo < (0 : Int32)) (h : lo < hi) : (own_iushr (lo + hi) (1 : Int32)).toInt = (lo.toInt + hi.toInt) / 2 ∧ ((own_iushr (lo + hi) (1 : Int32)) + (1 : Int32)).toInt = (lo.toInt + hi.toInt) / 2 + 1 := by
  rw [Int32.lt_iff_toInt_lt, show (0 : Int32).toInt = 0 from by decide] at h0
  rw [Int32.lt_iff_toInt_lt] at h
  have a := c_iadd lo hi
  have b : (own_iushr (lo + hi) (1 : Int32)).toInt = ((lo + hi).toInt % 4294967296) / (2 ^ 1 : Nat) := c_iushr (lo + hi) 1 1 (by decide) (by decide)
  rw [show ((2 ^ 1 : Nat) : Int) = 2 from by decide] at b
  have r1 := rng32 lo; have r2 := rng32 hi; have r3 := rng32 (lo + hi)
  have c := c_iadd (own_iushr (lo + hi) (1 : Int32)) 1
  have r4 := rng32 (own_iushr (lo + hi) (1 : Int32) + 1)
  rw [show (1 : Int32).toInt = 1 from by decide] at c
  omega
theorem own_fuel (g : Nat → Int32) (v : Int32) : ∀ (n k : Nat) (lo hi : Int32), ¬ lo < (0 : Int32) → (hi.toInt - lo.toInt).toNat ≤ n → n ≤ k → own_fal g v k lo hi = own_fal g v n lo hi := by
  intro n
  induction n with
  | zero =>
    intro k lo hi h0 h1 h2
    have : ¬ lo < hi := by rw [Int32.lt_iff_toInt_lt]; omega
    cases k with
    | zero => rfl
    | succ k => show (if lo < hi then _ else lo) = lo; rw [if_neg this]
  | succ n ih =>
    intro k lo hi h0 h1 h2
    obtain ⟨k, rfl⟩ : ∃ j, k = j + 1 := ⟨k - 1, by omega⟩
    show (if lo < hi then _ else lo) = (if lo < hi then _ else lo)
    by_cases h : lo < hi
    · rw [if_pos h, if_pos h]
      obtain ⟨m1, m2⟩ := own_midv h0 h
      have h0' := h0
      rw [Int32.lt_iff_toInt_lt, show (0 : Int32).toInt = 0 from by decide] at h0'
      have h' := h
      rw [Int32.lt_iff_toInt_lt] at h'
      rw [ih k _ hi (by rw [Int32.lt_iff_toInt_lt, show (0 : Int32).toInt = 0 from by decide]; omega) (by omega) (by omega), ih k lo _ h0 (by omega) (by omega)]
    · rw [if_neg h, if_neg h]
theorem own_fal0 {g : Nat → Int32} {v lo hi : Int32} (h : ¬ lo < hi) : own_falE g v lo hi = lo := by
  unfold own_falE
  cases (hi.toInt - lo.toInt).toNat with
  | zero => rfl
  | succ k => show (if lo < hi then _ else lo) = lo; rw [if_neg h]
theorem own_fal1 {g : Nat → Int32} {v lo hi : Int32} (h0 : ¬ lo < (0 : Int32)) (h : lo < hi) :
    own_falE g v lo hi = if g (own_iushr (lo + hi) (1 : Int32)).toNatClampNeg < v then own_falE g v ((own_iushr (lo + hi) (1 : Int32)) + (1 : Int32)) hi else own_falE g v lo (own_iushr (lo + hi) (1 : Int32)) := by
  obtain ⟨m1, m2⟩ := own_midv h0 h
  have h0' := h0
  rw [Int32.lt_iff_toInt_lt, show (0 : Int32).toInt = 0 from by decide] at h0'
  have h' := h
  rw [Int32.lt_iff_toInt_lt] at h'
  unfold own_falE
  obtain ⟨n, e⟩ : ∃ n, (hi.toInt - lo.toInt).toNat = n + 1 := ⟨(hi.toInt - lo.toInt).toNat - 1, by omega⟩
  rw [e]
  show (if lo < hi then _ else lo) = _
  rw [if_pos h, own_fuel g v (hi.toInt - ((own_iushr (lo + hi) (1 : Int32)) + (1 : Int32)).toInt).toNat n _ hi (by rw [Int32.lt_iff_toInt_lt, show (0 : Int32).toInt = 0 from by decide]; omega) (by omega) (by omega),
    own_fuel g v ((own_iushr (lo + hi) (1 : Int32)).toInt - lo.toInt).toNat n lo _ h0 (by omega) (by omega)]
theorem own_mid {lo hi : Int32} (h0 : ¬ lo < (0 : Int32)) (h : lo < hi) : ¬ (own_iushr (lo + hi) (1 : Int32)) < 0 ∧ (own_iushr (lo + hi) (1 : Int32)) < hi ∧ (hi.toInt - ((own_iushr (lo + hi) (1 : Int32)) + (1 : Int32)).toInt).toNat < (hi.toInt - lo.toInt).toNat ∧ ((own_iushr (lo + hi) (1 : Int32)).toInt - lo.toInt).toNat < (hi.toInt - lo.toInt).toNat := by
  obtain ⟨m1, m2⟩ := own_midv h0 h
  rw [Int32.lt_iff_toInt_lt, show (0 : Int32).toInt = 0 from by decide] at h0
  rw [Int32.lt_iff_toInt_lt] at h
  simp only [Int32.lt_iff_toInt_lt, show (0 : Int32).toInt = 0 from by decide]
  omega
theorem own_fb1 {lo hi n : Int32} (q : ¬ lo < (0 : Int32) ∧ hi ≤ n) (h : lo < hi) : ¬ ((own_iushr (lo + hi) (1 : Int32)) + (1 : Int32)) < (0 : Int32) ∧ hi ≤ n := by
  obtain ⟨m1, m2⟩ := own_midv q.1 h
  refine ⟨?_, q.2⟩
  have h0 := q.1
  rw [Int32.lt_iff_toInt_lt, show (0 : Int32).toInt = 0 from by decide] at h0 ⊢
  rw [Int32.lt_iff_toInt_lt] at h
  omega
theorem own_fb2 {lo hi n : Int32} (q : ¬ lo < (0 : Int32) ∧ hi ≤ n) (h : lo < hi) : ¬ lo < (0 : Int32) ∧ (own_iushr (lo + hi) (1 : Int32)) ≤ n := by
  have m := (own_mid q.1 h).2.1
  have q2 := q.2
  refine ⟨q.1, ?_⟩
  rw [Int32.lt_iff_toInt_lt] at m
  rw [Int32.le_iff_toInt_le] at q2 ⊢
  omega
theorem own_fix {lo hi n : Int32} (q : ¬ lo < (0 : Int32) ∧ hi ≤ n) (h : lo < hi) : ¬ (own_iushr (lo + hi) (1 : Int32)) < 0 ∧ (own_iushr (lo + hi) (1 : Int32)) < n := by
  have m := own_mid q.1 h
  have q2 := q.2
  refine ⟨m.1, ?_⟩
  have m2 := m.2.1
  rw [Int32.lt_iff_toInt_lt] at m2 ⊢
  rw [Int32.le_iff_toInt_le] at q2
  omega
theorem own_ltix {i a b n : Int32} (q : ¬ a < (0 : Int32) ∧ b ≤ n) (h1 : ¬ i < a) (h2 : i < b) : ¬ i < 0 ∧ i < n := by
  simp only [Int32.lt_iff_toInt_lt, Int32.le_iff_toInt_le] at *
  omega

theorem d3_0 : decode method_4_code 0 = .ok (.iload_n 1, 1) := by decide +kernel
theorem d3_1 : decode method_4_code 1 = .ok (.iload_n 2, 1) := by decide +kernel
theorem d3_2 : decode method_4_code 2 = .ok (.if_icmp .lt 20, 3) := by decide +kernel
theorem d3_5 : decode method_4_code 5 = .ok (.iload_n 1, 1) := by decide +kernel
theorem d3_6 : decode method_4_code 6 = .ok (.iload_n 3, 1) := by decide +kernel
theorem d3_7 : decode method_4_code 7 = .ok (.if_icmp .ge 15, 3) := by decide +kernel
theorem d3_10 : decode method_4_code 10 = .ok (.aload_n 0, 1) := by decide +kernel
theorem d3_11 : decode method_4_code 11 = .ok (.iload_n 1, 1) := by decide +kernel
theorem d3_12 : decode method_4_code 12 = .ok (.iaload, 1) := by decide +kernel
theorem d3_13 : decode method_4_code 13 = .ok (.iload 4, 2) := by decide +kernel
theorem d3_15 : decode method_4_code 15 = .ok (.if_icmp .ge 7, 3) := by decide +kernel
theorem d3_18 : decode method_4_code 18 = .ok (.iconst 1, 1) := by decide +kernel
theorem d3_19 : decode method_4_code 19 = .ok (.goto 4, 3) := by decide +kernel
theorem d3_22 : decode method_4_code 22 = .ok (.iconst 0, 1) := by decide +kernel
theorem d3_23 : decode method_4_code 23 = .ok (.ireturn, 1) := by decide +kernel
theorem pn_3 : plainName "com/example/reachability/reachability/CandidateListFirstAtLeastPinLaw" = true := by first | (simp [plainName, overriddenIn]; done) | decide +kernel
theorem ef_3 (m : MethodId) (r0 : Addr) (p1 : Int32) (p2 : Int32) (p3 : Int32) (p4 : Int32) : entryFrame m #[(.ref r0), (.int p1), (.int p2), (.int p3), (.int p4)] 5 = mkF m 0 #[.val (.ref r0), .val (.int p1), .val (.int p2), .val (.int p3), .val (.int p4)] [] := by first | (simp [entryFrame, mkF, argsToLocals, Value.category]; done) | rfl
def rm3_room : Room := { frames := 0, cells := 0, slots := 0, locals := 0 }
def own_f3 (p1 : Int32) (p2 : Int32) (p3 : Int32) (p4 : Int32) (xg : Nat → Int32) : Int32 := (if p1 < p2 then ((0 : Int32)) else ((if p1 < p3 then ((if (xg p1.toNatClampNeg) < p4 then ((1 : Int32)) else ((0 : Int32)))) else ((0 : Int32)))))
def Qrm3 (Z : State) (r0 : Addr) (p1 : Int32) (p2 : Int32) (p3 : Int32) (p4 : Int32) (xg : Nat → Int32) (h0 : Heap) (n0 : Nat) (v : Option Value) (h : Heap) (L : List Loc) : Prop := v = some (.int (own_f3 p1 p2 p3 p4 xg)) ∧ Fr n0 L ∧ h = h0
theorem own_lf_own_f3_1 {p1 : Int32} {p2 : Int32} {p3 : Int32} {p4 : Int32} {xg : Nat → Int32} (hc1 : p1 < p2) : (some (.int (0 : Int32)) : Option Value) = some (.int (own_f3 p1 p2 p3 p4 xg)) := by
  first | (simp only [own_f3, if_pos hc1]; done) | (simp only [own_f3, if_pos hc1]; rfl) | rfl
theorem own_lf_own_f3_2 {p1 : Int32} {p2 : Int32} {p3 : Int32} {p4 : Int32} {xg : Nat → Int32} (hc1 : ¬ (p1 < p2)) (hc2 : p1 < p3) (hc3 : (xg p1.toNatClampNeg) < p4) : (some (.int (1 : Int32)) : Option Value) = some (.int (own_f3 p1 p2 p3 p4 xg)) := by
  first | (simp only [own_f3, if_neg hc1, if_pos hc2, if_pos hc3]; done) | (simp only [own_f3, if_neg hc1, if_pos hc2, if_pos hc3]; rfl) | rfl
theorem own_lf_own_f3_3 {p1 : Int32} {p2 : Int32} {p3 : Int32} {p4 : Int32} {xg : Nat → Int32} (hc1 : ¬ (p1 < p2)) (hc2 : p1 < p3) (hc3 : ¬ ((xg p1.toNatClampNeg) < p4)) : (some (.int (0 : Int32)) : Option Value) = some (.int (own_f3 p1 p2 p3 p4 xg)) := by
  first | (simp only [own_f3, if_neg hc1, if_pos hc2, if_neg hc3]; done) | (simp only [own_f3, if_neg hc1, if_pos hc2, if_neg hc3]; rfl) | rfl
theorem own_lf_own_f3_4 {p1 : Int32} {p2 : Int32} {p3 : Int32} {p4 : Int32} {xg : Nat → Int32} (hc1 : ¬ (p1 < p2)) (hc2 : ¬ (p1 < p3)) : (some (.int (0 : Int32)) : Option Value) = some (.int (own_f3 p1 p2 p3 p4 xg)) := by
  first | (simp only [own_f3, if_neg hc1, if_neg hc2]; done) | (simp only [own_f3, if_neg hc1, if_neg hc2]; rfl) | rfl
set_option maxRecDepth 65536 in
set_option maxHeartbeats 40000000 in
theorem rm3 (l : Launch) (Z : State) (a0 : Array Value) (hw : ∀ d ∈ tables_1, d.before a0 Z = true) (ws : List Jvm.Cond) (r0 : Addr) (p1 : Int32) (p2 : Int32) (p3 : Int32) (p4 : Int32) (xg : Nat → Int32) (h0 : Heap) (n0 : Nat) (Z0 : n0 ≤ h0.size) (A_r0_0 : own_Arf Z h0 r0 .int (8 : Int32) (fun i => .int (xg i))) (hp : ¬ p2 < (0 : Int32) ∧ p3 ≤ (8 : Int32)) :
    MetFree l (⟨"com/example/reachability/reachability/CandidateListFirstAtLeastPinLaw", "lt", "([IIIII)I"⟩ : MethodName) (head1 (Jvm.Cond.code (⟨"com/example/reachability/reachability/CandidateListFirstAtLeastPinLaw", "lt", "([IIIII)I"⟩ : MethodName) method_4_code 5 (some .int) :: ws) rm3_room) (fun a U => a = #[(.ref r0), (.int p1), (.int p2), (.int p3), (.int p4)] ∧ Z.Warmed39 U.vm ∧ U.heap = h0) (fun _ _ _ _ _ => True) (fun _ U o U' => ∃ v L, o = .returned v ∧ Qrm3 Z r0 p1 p2 p3 p4 xg h0 n0 v U'.heap L ∧ FrameEnd U o U' L rm3_room.cells rm3_room.slots) := by
  refine MetFree.of_bodySF (plainFor_of_name pn_3) hisR ?_
  intro p e s m args below meth c s₁ Bd hml0 hP hK
  obtain ⟨rfl, hZ, hh⟩ := hP
  have hx := Bd.exec
  have hby := Bd.bytes
  have hml : c.maxLocals = 5 := hml0
  have hown : s.vm.findClass "com/example/reachability/reachability/CandidateListFirstAtLeastPinLaw" = some m.cls := findClass_of_methodNamed Bd.named
  have hnm := (name_of_methodNamed Bd.named Bd.method).1
  have hlk : meth.locks = false := BodyLoose.notSynchronized Bd
  have X0 : Stand p l e rm3_room s m #[(.ref r0), (.int p1), (.int p2), (.int p3), (.int p4)] below meth c s₁ [] 0 0 := Stand.of_body Bd
  have e0 : s₁.heap = h0 := by rw [← hh, Bd.state]; rfl
  have N0 := Fr.nil n0
  show own_Fin p.tables e below s (Qrm3 Z r0 p1 p2 p3 p4 xg h0 n0) rm3_room.cells rm3_room.slots (s₁.setTop (entryFrame m #[(.ref r0), (.int p1), (.int p2), (.int p3), (.int p4)] 5))
  rw [ef_3]
  show own_Fin _ _ _ _ _ _ _ (s₁.setTop (mkF m 0 #[.val (.ref r0), .val (.int p1), .val (.int p2), .val (.int p3), .val (.int p4)] []))
  refine own_go (fun _ k => XS.iloadN X0.here hx rfl (hb hby d3_0) rfl k) ?_
  show own_Fin _ _ _ _ _ _ _ (s₁.setTop (mkF m 1 #[.val (.ref r0), .val (.int p1), .val (.int p2), .val (.int p3), .val (.int p4)] [(.int p1)]))
  refine own_go (fun _ k => XS.iloadN X0.here hx rfl (hb hby d3_1) rfl k) ?_
  show own_Fin _ _ _ _ _ _ _ (s₁.setTop (mkF m 2 #[.val (.ref r0), .val (.int p1), .val (.int p2), .val (.int p3), .val (.int p4)] [(.int p2), (.int p1)]))
  by_cases hc1 : p1 < p2
  · refine own_go (fun _ k => XS.icmpYes X0.here hx rfl (pc0 := 2) (pc' := 22) rfl (hb hby d3_2) rfl (tlt hc1).1 (by decide) (by decide) k) ?_
    show own_Fin _ _ _ _ _ _ _ (s₁.setTop (mkF m 22 #[.val (.ref r0), .val (.int p1), .val (.int p2), .val (.int p3), .val (.int p4)] []))
    refine own_go (fun _ k => XS.iconst X0.here hx rfl (hb hby d3_22) k) ?_
    show own_Fin _ _ _ _ _ _ _ (s₁.setTop (mkF m 23 #[.val (.ref r0), .val (.int p1), .val (.int p2), .val (.int p3), .val (.int p4)] [(.int (0 : Int32))]))
    refine own_ret X0 hx hlk Bd.returns rfl (Or.inl ⟨rfl, by simp, _, rfl⟩) (hb hby d3_23) (Nat.le_of_ble_eq_true rfl) (Nat.le_of_ble_eq_true rfl) ?_
    refine ⟨(own_lf_own_f3_1 (p1 := p1) (p2 := p2) (p3 := p3) (p4 := p4) (xg := xg) hc1), N0, e0⟩
  · refine own_go (fun _ k => XS.icmpNo X0.here hx rfl (hb hby d3_2) rfl (flt hc1).1 k) ?_
    show own_Fin _ _ _ _ _ _ _ (s₁.setTop (mkF m 5 #[.val (.ref r0), .val (.int p1), .val (.int p2), .val (.int p3), .val (.int p4)] []))
    refine own_go (fun _ k => XS.iloadN X0.here hx rfl (hb hby d3_5) rfl k) ?_
    show own_Fin _ _ _ _ _ _ _ (s₁.setTop (mkF m 6 #[.val (.ref r0), .val (.int p1), .val (.int p2), .val (.int p3), .val (.int p4)] [(.int p1)]))
    refine own_go (fun _ k => XS.iloadN X0.here hx rfl (hb hby d3_6) rfl k) ?_
    show own_Fin _ _ _ _ _ _ _ (s₁.setTop (mkF m 7 #[.val (.ref r0), .val (.int p1), .val (.int p2), .val (.int p3), .val (.int p4)] [(.int p3), (.int p1)]))
    by_cases hc2 : p1 < p3
    · refine own_go (fun _ k => XS.icmpNo X0.here hx rfl (hb hby d3_7) rfl (tlt hc2).2.1 k) ?_
      show own_Fin _ _ _ _ _ _ _ (s₁.setTop (mkF m 10 #[.val (.ref r0), .val (.int p1), .val (.int p2), .val (.int p3), .val (.int p4)] []))
      refine own_go (fun _ k => XS.aloadN X0.here hx rfl (hb hby d3_10) rfl rfl k) ?_
      show own_Fin _ _ _ _ _ _ _ (s₁.setTop (mkF m 11 #[.val (.ref r0), .val (.int p1), .val (.int p2), .val (.int p3), .val (.int p4)] [(.ref r0)]))
      refine own_go (fun _ k => XS.iloadN X0.here hx rfl (hb hby d3_11) rfl k) ?_
      show own_Fin _ _ _ _ _ _ _ (s₁.setTop (mkF m 12 #[.val (.ref r0), .val (.int p1), .val (.int p2), .val (.int p3), .val (.int p4)] [(.int p1), (.ref r0)]))
      refine own_go (fun tg k => own_iaload X0 hx hZ e0 A_r0_0 (j := p1) (own_ltix hp hc1 hc2) (x := (xg p1.toNatClampNeg)) rfl (g := (mkF m 12 #[.val (.ref r0), .val (.int p1), .val (.int p2), .val (.int p3), .val (.int p4)] [(.int p1), (.ref r0)])) rfl rfl (hb hby d3_12) tg k) ?_
      show own_Fin _ _ _ _ _ _ _ (s₁.setTop (mkF m 13 #[.val (.ref r0), .val (.int p1), .val (.int p2), .val (.int p3), .val (.int p4)] [(.int (xg p1.toNatClampNeg))]))
      refine own_go (fun _ k => XS.iload X0.here hx rfl (hb hby d3_13) rfl k) ?_
      show own_Fin _ _ _ _ _ _ _ (s₁.setTop (mkF m 15 #[.val (.ref r0), .val (.int p1), .val (.int p2), .val (.int p3), .val (.int p4)] [(.int p4), (.int (xg p1.toNatClampNeg))]))
      by_cases hc3 : (xg p1.toNatClampNeg) < p4
      · refine own_go (fun _ k => XS.icmpNo X0.here hx rfl (hb hby d3_15) rfl (tlt hc3).2.1 k) ?_
        show own_Fin _ _ _ _ _ _ _ (s₁.setTop (mkF m 18 #[.val (.ref r0), .val (.int p1), .val (.int p2), .val (.int p3), .val (.int p4)] []))
        refine own_go (fun _ k => XS.iconst X0.here hx rfl (hb hby d3_18) k) ?_
        show own_Fin _ _ _ _ _ _ _ (s₁.setTop (mkF m 19 #[.val (.ref r0), .val (.int p1), .val (.int p2), .val (.int p3), .val (.int p4)] [(.int (1 : Int32))]))
        refine own_go (fun _ k => XS.goto X0.here hx rfl (pc0 := 19) (pc' := 23) rfl (hb hby d3_19) (by decide) (by decide) k) ?_
        show own_Fin _ _ _ _ _ _ _ (s₁.setTop (mkF m 23 #[.val (.ref r0), .val (.int p1), .val (.int p2), .val (.int p3), .val (.int p4)] [(.int (1 : Int32))]))
        refine own_ret X0 hx hlk Bd.returns rfl (Or.inl ⟨rfl, by simp, _, rfl⟩) (hb hby d3_23) (Nat.le_of_ble_eq_true rfl) (Nat.le_of_ble_eq_true rfl) ?_
        refine ⟨(own_lf_own_f3_2 (p1 := p1) (p2 := p2) (p3 := p3) (p4 := p4) (xg := xg) hc1 hc2 hc3), N0, e0⟩
      · refine own_go (fun _ k => XS.icmpYes X0.here hx rfl (pc0 := 15) (pc' := 22) rfl (hb hby d3_15) rfl (flt hc3).2.1 (by decide) (by decide) k) ?_
        show own_Fin _ _ _ _ _ _ _ (s₁.setTop (mkF m 22 #[.val (.ref r0), .val (.int p1), .val (.int p2), .val (.int p3), .val (.int p4)] []))
        refine own_go (fun _ k => XS.iconst X0.here hx rfl (hb hby d3_22) k) ?_
        show own_Fin _ _ _ _ _ _ _ (s₁.setTop (mkF m 23 #[.val (.ref r0), .val (.int p1), .val (.int p2), .val (.int p3), .val (.int p4)] [(.int (0 : Int32))]))
        refine own_ret X0 hx hlk Bd.returns rfl (Or.inl ⟨rfl, by simp, _, rfl⟩) (hb hby d3_23) (Nat.le_of_ble_eq_true rfl) (Nat.le_of_ble_eq_true rfl) ?_
        refine ⟨(own_lf_own_f3_3 (p1 := p1) (p2 := p2) (p3 := p3) (p4 := p4) (xg := xg) hc1 hc2 hc3), N0, e0⟩
    · refine own_go (fun _ k => XS.icmpYes X0.here hx rfl (pc0 := 7) (pc' := 22) rfl (hb hby d3_7) rfl (flt hc2).2.1 (by decide) (by decide) k) ?_
      show own_Fin _ _ _ _ _ _ _ (s₁.setTop (mkF m 22 #[.val (.ref r0), .val (.int p1), .val (.int p2), .val (.int p3), .val (.int p4)] []))
      refine own_go (fun _ k => XS.iconst X0.here hx rfl (hb hby d3_22) k) ?_
      show own_Fin _ _ _ _ _ _ _ (s₁.setTop (mkF m 23 #[.val (.ref r0), .val (.int p1), .val (.int p2), .val (.int p3), .val (.int p4)] [(.int (0 : Int32))]))
      refine own_ret X0 hx hlk Bd.returns rfl (Or.inl ⟨rfl, by simp, _, rfl⟩) (hb hby d3_23) (Nat.le_of_ble_eq_true rfl) (Nat.le_of_ble_eq_true rfl) ?_
      refine ⟨(own_lf_own_f3_4 (p1 := p1) (p2 := p2) (p3 := p3) (p4 := p4) (xg := xg) hc1 hc2), N0, e0⟩
theorem d4_0 : decode prog_2_method_20_code 0 = .ok (.iload_n 1, 1) := by decide +kernel
theorem d4_1 : decode prog_2_method_20_code 1 = .ok (.istore 4, 2) := by decide +kernel
theorem d4_3 : decode prog_2_method_20_code 3 = .ok (.iload_n 2, 1) := by decide +kernel
theorem d4_4 : decode prog_2_method_20_code 4 = .ok (.istore 5, 2) := by decide +kernel
theorem d4_6 : decode prog_2_method_20_code 6 = .ok (.iload 4, 2) := by decide +kernel
theorem d4_8 : decode prog_2_method_20_code 8 = .ok (.iload 5, 2) := by decide +kernel
theorem d4_10 : decode prog_2_method_20_code 10 = .ok (.if_icmp .ge 36, 3) := by decide +kernel
theorem d4_13 : decode prog_2_method_20_code 13 = .ok (.iload 4, 2) := by decide +kernel
theorem d4_15 : decode prog_2_method_20_code 15 = .ok (.iload 5, 2) := by decide +kernel
theorem d4_17 : decode prog_2_method_20_code 17 = .ok (.iadd, 1) := by decide +kernel
theorem d4_18 : decode prog_2_method_20_code 18 = .ok (.iconst 1, 1) := by decide +kernel
theorem d4_19 : decode prog_2_method_20_code 19 = .ok (.iushr, 1) := by decide +kernel
theorem d4_20 : decode prog_2_method_20_code 20 = .ok (.istore 6, 2) := by decide +kernel
theorem d4_22 : decode prog_2_method_20_code 22 = .ok (.aload_n 0, 1) := by decide +kernel
theorem d4_23 : decode prog_2_method_20_code 23 = .ok (.iload 6, 2) := by decide +kernel
theorem d4_25 : decode prog_2_method_20_code 25 = .ok (.iaload, 1) := by decide +kernel
theorem d4_26 : decode prog_2_method_20_code 26 = .ok (.iload_n 3, 1) := by decide +kernel
theorem d4_27 : decode prog_2_method_20_code 27 = .ok (.if_icmp .ge 12, 3) := by decide +kernel
theorem d4_30 : decode prog_2_method_20_code 30 = .ok (.iload 6, 2) := by decide +kernel
theorem d4_32 : decode prog_2_method_20_code 32 = .ok (.iconst 1, 1) := by decide +kernel
theorem d4_33 : decode prog_2_method_20_code 33 = .ok (.iadd, 1) := by decide +kernel
theorem d4_34 : decode prog_2_method_20_code 34 = .ok (.istore 4, 2) := by decide +kernel
theorem d4_36 : decode prog_2_method_20_code 36 = .ok (.goto 7, 3) := by decide +kernel
theorem d4_39 : decode prog_2_method_20_code 39 = .ok (.iload 6, 2) := by decide +kernel
theorem d4_41 : decode prog_2_method_20_code 41 = .ok (.istore 5, 2) := by decide +kernel
theorem d4_43 : decode prog_2_method_20_code 43 = .ok (.goto (-37), 3) := by decide +kernel
theorem d4_46 : decode prog_2_method_20_code 46 = .ok (.iload 4, 2) := by decide +kernel
theorem d4_48 : decode prog_2_method_20_code 48 = .ok (.ireturn, 1) := by decide +kernel
theorem pn_4 : plainName "com/example/reachability/reachability/CandidateList" = true := by first | (simp [plainName, overriddenIn]; done) | decide +kernel
theorem ef_4 (m : MethodId) (r0 : Addr) (p1 : Int32) (p2 : Int32) (p3 : Int32) : entryFrame m #[(.ref r0), (.int p1), (.int p2), (.int p3)] 7 = mkF m 0 #[.val (.ref r0), .val (.int p1), .val (.int p2), .val (.int p3), .unset, .unset, .unset] [] := by first | (simp [entryFrame, mkF, argsToLocals, Value.category]; done) | rfl
def rm4_room : Room := { frames := 0, cells := 0, slots := 0, locals := 0 }
def Qrm4 (Z : State) (r0 : Addr) (p1 : Int32) (p2 : Int32) (p3 : Int32) (xg : Nat → Int32) (h0 : Heap) (n0 : Nat) (v : Option Value) (h : Heap) (L : List Loc) : Prop := v = some (.int (own_falE xg p3 p1 p2)) ∧ Fr n0 L ∧ h = h0
set_option maxRecDepth 65536 in
set_option maxHeartbeats 40000000 in
theorem rm4 (l : Launch) (Z : State) (a0 : Array Value) (hw : ∀ d ∈ tables_1, d.before a0 Z = true) (ws : List Jvm.Cond) (r0 : Addr) (p1 : Int32) (p2 : Int32) (p3 : Int32) (xg : Nat → Int32) (h0 : Heap) (n0 : Nat) (Z0 : n0 ≤ h0.size) (A_r0_0 : own_Arf Z h0 r0 .int (8 : Int32) (fun i => .int (xg i))) (hp : ¬ p1 < (0 : Int32) ∧ p2 ≤ (8 : Int32)) :
    MetFree l (⟨"com/example/reachability/reachability/CandidateList", "firstAtLeast", "([IIII)I"⟩ : MethodName) (head1 (Jvm.Cond.code (⟨"com/example/reachability/reachability/CandidateList", "firstAtLeast", "([IIII)I"⟩ : MethodName) prog_2_method_20_code 7 (some .int) :: ws) rm4_room) (fun a U => a = #[(.ref r0), (.int p1), (.int p2), (.int p3)] ∧ Z.Warmed39 U.vm ∧ U.heap = h0) (fun _ _ _ _ _ => True) (fun _ U o U' => ∃ v L, o = .returned v ∧ Qrm4 Z r0 p1 p2 p3 xg h0 n0 v U'.heap L ∧ FrameEnd U o U' L rm4_room.cells rm4_room.slots) := by
  refine MetFree.of_bodySF (plainFor_of_name pn_4) hisR ?_
  intro p e s m args below meth c s₁ Bd hml0 hP hK
  obtain ⟨rfl, hZ, hh⟩ := hP
  have hx := Bd.exec
  have hby := Bd.bytes
  have hml : c.maxLocals = 7 := hml0
  have hown : s.vm.findClass "com/example/reachability/reachability/CandidateList" = some m.cls := findClass_of_methodNamed Bd.named
  have hnm := (name_of_methodNamed Bd.named Bd.method).1
  have hlk : meth.locks = false := BodyLoose.notSynchronized Bd
  have X0 : Stand p l e rm4_room s m #[(.ref r0), (.int p1), (.int p2), (.int p3)] below meth c s₁ [] 0 0 := Stand.of_body Bd
  have e0 : s₁.heap = h0 := by rw [← hh, Bd.state]; rfl
  have N0 := Fr.nil n0
  show own_Fin p.tables e below s (Qrm4 Z r0 p1 p2 p3 xg h0 n0) rm4_room.cells rm4_room.slots (s₁.setTop (entryFrame m #[(.ref r0), (.int p1), (.int p2), (.int p3)] 7))
  rw [ef_4]
  show own_Fin _ _ _ _ _ _ _ (s₁.setTop (mkF m 0 #[.val (.ref r0), .val (.int p1), .val (.int p2), .val (.int p3), .unset, .unset, .unset] []))
  refine own_go (fun _ k => XS.iloadN X0.here hx rfl (hb hby d4_0) rfl k) ?_
  show own_Fin _ _ _ _ _ _ _ (s₁.setTop (mkF m 1 #[.val (.ref r0), .val (.int p1), .val (.int p2), .val (.int p3), .unset, .unset, .unset] [(.int p1)]))
  refine own_go (fun _ k => XS.istore X0.here hx rfl (hb hby d4_1) rfl (l' := #[.val (.ref r0), .val (.int p1), .val (.int p2), .val (.int p3), .val (.int p1), .unset, .unset]) rfl k) ?_
  show own_Fin _ _ _ _ _ _ _ (s₁.setTop (mkF m 3 #[.val (.ref r0), .val (.int p1), .val (.int p2), .val (.int p3), .val (.int p1), .unset, .unset] []))
  refine own_go (fun _ k => XS.iloadN X0.here hx rfl (hb hby d4_3) rfl k) ?_
  show own_Fin _ _ _ _ _ _ _ (s₁.setTop (mkF m 4 #[.val (.ref r0), .val (.int p1), .val (.int p2), .val (.int p3), .val (.int p1), .unset, .unset] [(.int p2)]))
  refine own_go (fun _ k => XS.istore X0.here hx rfl (hb hby d4_4) rfl (l' := #[.val (.ref r0), .val (.int p1), .val (.int p2), .val (.int p3), .val (.int p1), .val (.int p2), .unset]) rfl k) ?_
  show own_Fin _ _ _ _ _ _ _ (s₁.setTop (mkF m 6 #[.val (.ref r0), .val (.int p1), .val (.int p2), .val (.int p3), .val (.int p1), .val (.int p2), .unset] []))
  have loopA : ∀ (kA : Nat) (lo : Int32) (hi : Int32) (j6A : Slot) (TAL : State) (LAL : List Loc), kA = (hi.toInt - lo.toInt).toNat → own_falE xg p3 lo hi = own_falE xg p3 p1 p2 → ¬ lo < (0 : Int32) ∧ hi ≤ (8 : Int32) → Stand p l e rm4_room s m #[(.ref r0), (.int p1), (.int p2), (.int p3)] below meth c TAL LAL 0 0 → Fr n0 LAL → TAL.heap = h0 → One j6A → own_Fin p.tables e below s (Qrm4 Z r0 p1 p2 p3 xg h0 n0) rm4_room.cells rm4_room.slots (TAL.setTop (mkF m 6 #[.val (.ref r0), .val (.int p1), .val (.int p2), .val (.int p3), .val (.int lo), .val (.int hi), j6A] [])) := by
    intro kA
    induction kA using Nat.strongRecOn with
    | _ kA ihA =>
      intro lo hi j6A TAL LAL hkA hinv hlo XAL NAL eAL hj6A
      show own_Fin _ _ _ _ _ _ _ (TAL.setTop (mkF m 6 #[.val (.ref r0), .val (.int p1), .val (.int p2), .val (.int p3), .val (.int lo), .val (.int hi), j6A] []))
      refine own_go (fun _ k => XS.iload XAL.here hx rfl (hb hby d4_6) rfl k) ?_
      show own_Fin _ _ _ _ _ _ _ (TAL.setTop (mkF m 8 #[.val (.ref r0), .val (.int p1), .val (.int p2), .val (.int p3), .val (.int lo), .val (.int hi), j6A] [(.int lo)]))
      refine own_go (fun _ k => XS.iload XAL.here hx rfl (hb hby d4_8) rfl k) ?_
      show own_Fin _ _ _ _ _ _ _ (TAL.setTop (mkF m 10 #[.val (.ref r0), .val (.int p1), .val (.int p2), .val (.int p3), .val (.int lo), .val (.int hi), j6A] [(.int hi), (.int lo)]))
      by_cases hc1 : lo < hi
      · refine own_go (fun _ k => XS.icmpNo XAL.here hx rfl (hb hby d4_10) rfl (tlt hc1).2.1 k) ?_
        show own_Fin _ _ _ _ _ _ _ (TAL.setTop (mkF m 13 #[.val (.ref r0), .val (.int p1), .val (.int p2), .val (.int p3), .val (.int lo), .val (.int hi), j6A] []))
        refine own_go (fun _ k => XS.iload XAL.here hx rfl (hb hby d4_13) rfl k) ?_
        show own_Fin _ _ _ _ _ _ _ (TAL.setTop (mkF m 15 #[.val (.ref r0), .val (.int p1), .val (.int p2), .val (.int p3), .val (.int lo), .val (.int hi), j6A] [(.int lo)]))
        refine own_go (fun _ k => XS.iload XAL.here hx rfl (hb hby d4_15) rfl k) ?_
        show own_Fin _ _ _ _ _ _ _ (TAL.setTop (mkF m 17 #[.val (.ref r0), .val (.int p1), .val (.int p2), .val (.int p3), .val (.int lo), .val (.int hi), j6A] [(.int hi), (.int lo)]))
        refine own_go (fun _ k => XS.iadd XAL.here hx rfl (hb hby d4_17) rfl k) ?_
        show own_Fin _ _ _ _ _ _ _ (TAL.setTop (mkF m 18 #[.val (.ref r0), .val (.int p1), .val (.int p2), .val (.int p3), .val (.int lo), .val (.int hi), j6A] [(.int (lo + hi))]))
        refine own_go (fun _ k => XS.iconst XAL.here hx rfl (hb hby d4_18) k) ?_
        show own_Fin _ _ _ _ _ _ _ (TAL.setTop (mkF m 19 #[.val (.ref r0), .val (.int p1), .val (.int p2), .val (.int p3), .val (.int lo), .val (.int hi), j6A] [(.int (1 : Int32)), (.int (lo + hi))]))
        refine own_go (fun _ k => XS.iushr XAL.here hx rfl (hb hby d4_19) rfl k) ?_
        show own_Fin _ _ _ _ _ _ _ (TAL.setTop (mkF m 20 #[.val (.ref r0), .val (.int p1), .val (.int p2), .val (.int p3), .val (.int lo), .val (.int hi), j6A] [(.int (own_iushr (lo + hi) (1 : Int32)))]))
        refine own_go (fun _ k => XS.istoreS XAL.here hx rfl (hb hby d4_20) rfl rfl hj6A k) ?_
        show own_Fin _ _ _ _ _ _ _ (TAL.setTop (mkF m 22 #[.val (.ref r0), .val (.int p1), .val (.int p2), .val (.int p3), .val (.int lo), .val (.int hi), .val (.int (own_iushr (lo + hi) (1 : Int32)))] []))
        refine own_go (fun _ k => XS.aloadN XAL.here hx rfl (hb hby d4_22) rfl rfl k) ?_
        show own_Fin _ _ _ _ _ _ _ (TAL.setTop (mkF m 23 #[.val (.ref r0), .val (.int p1), .val (.int p2), .val (.int p3), .val (.int lo), .val (.int hi), .val (.int (own_iushr (lo + hi) (1 : Int32)))] [(.ref r0)]))
        refine own_go (fun _ k => XS.iload XAL.here hx rfl (hb hby d4_23) rfl k) ?_
        show own_Fin _ _ _ _ _ _ _ (TAL.setTop (mkF m 25 #[.val (.ref r0), .val (.int p1), .val (.int p2), .val (.int p3), .val (.int lo), .val (.int hi), .val (.int (own_iushr (lo + hi) (1 : Int32)))] [(.int (own_iushr (lo + hi) (1 : Int32))), (.ref r0)]))
        refine own_go (fun tg k => own_iaload XAL hx hZ eAL A_r0_0 (j := (own_iushr (lo + hi) (1 : Int32))) (own_fix hlo hc1) (x := (xg (own_iushr (lo + hi) (1 : Int32)).toNatClampNeg)) rfl (g := (mkF m 25 #[.val (.ref r0), .val (.int p1), .val (.int p2), .val (.int p3), .val (.int lo), .val (.int hi), .val (.int (own_iushr (lo + hi) (1 : Int32)))] [(.int (own_iushr (lo + hi) (1 : Int32))), (.ref r0)])) rfl rfl (hb hby d4_25) tg k) ?_
        show own_Fin _ _ _ _ _ _ _ (TAL.setTop (mkF m 26 #[.val (.ref r0), .val (.int p1), .val (.int p2), .val (.int p3), .val (.int lo), .val (.int hi), .val (.int (own_iushr (lo + hi) (1 : Int32)))] [(.int (xg (own_iushr (lo + hi) (1 : Int32)).toNatClampNeg))]))
        refine own_go (fun _ k => XS.iloadN XAL.here hx rfl (hb hby d4_26) rfl k) ?_
        show own_Fin _ _ _ _ _ _ _ (TAL.setTop (mkF m 27 #[.val (.ref r0), .val (.int p1), .val (.int p2), .val (.int p3), .val (.int lo), .val (.int hi), .val (.int (own_iushr (lo + hi) (1 : Int32)))] [(.int p3), (.int (xg (own_iushr (lo + hi) (1 : Int32)).toNatClampNeg))]))
        by_cases hc2 : (xg (own_iushr (lo + hi) (1 : Int32)).toNatClampNeg) < p3
        · refine own_go (fun _ k => XS.icmpNo XAL.here hx rfl (hb hby d4_27) rfl (tlt hc2).2.1 k) ?_
          show own_Fin _ _ _ _ _ _ _ (TAL.setTop (mkF m 30 #[.val (.ref r0), .val (.int p1), .val (.int p2), .val (.int p3), .val (.int lo), .val (.int hi), .val (.int (own_iushr (lo + hi) (1 : Int32)))] []))
          refine own_go (fun _ k => XS.iload XAL.here hx rfl (hb hby d4_30) rfl k) ?_
          show own_Fin _ _ _ _ _ _ _ (TAL.setTop (mkF m 32 #[.val (.ref r0), .val (.int p1), .val (.int p2), .val (.int p3), .val (.int lo), .val (.int hi), .val (.int (own_iushr (lo + hi) (1 : Int32)))] [(.int (own_iushr (lo + hi) (1 : Int32)))]))
          refine own_go (fun _ k => XS.iconst XAL.here hx rfl (hb hby d4_32) k) ?_
          show own_Fin _ _ _ _ _ _ _ (TAL.setTop (mkF m 33 #[.val (.ref r0), .val (.int p1), .val (.int p2), .val (.int p3), .val (.int lo), .val (.int hi), .val (.int (own_iushr (lo + hi) (1 : Int32)))] [(.int (1 : Int32)), (.int (own_iushr (lo + hi) (1 : Int32)))]))
          refine own_go (fun _ k => XS.iadd XAL.here hx rfl (hb hby d4_33) rfl k) ?_
          show own_Fin _ _ _ _ _ _ _ (TAL.setTop (mkF m 34 #[.val (.ref r0), .val (.int p1), .val (.int p2), .val (.int p3), .val (.int lo), .val (.int hi), .val (.int (own_iushr (lo + hi) (1 : Int32)))] [(.int ((own_iushr (lo + hi) (1 : Int32)) + (1 : Int32)))]))
          refine own_go (fun _ k => XS.istore XAL.here hx rfl (hb hby d4_34) rfl (l' := #[.val (.ref r0), .val (.int p1), .val (.int p2), .val (.int p3), .val (.int ((own_iushr (lo + hi) (1 : Int32)) + (1 : Int32))), .val (.int hi), .val (.int (own_iushr (lo + hi) (1 : Int32)))]) rfl k) ?_
          show own_Fin _ _ _ _ _ _ _ (TAL.setTop (mkF m 36 #[.val (.ref r0), .val (.int p1), .val (.int p2), .val (.int p3), .val (.int ((own_iushr (lo + hi) (1 : Int32)) + (1 : Int32))), .val (.int hi), .val (.int (own_iushr (lo + hi) (1 : Int32)))] []))
          refine own_go (fun _ k => XS.goto XAL.here hx rfl (pc0 := 36) (pc' := 43) rfl (hb hby d4_36) (by decide) (by decide) k) ?_
          show own_Fin _ _ _ _ _ _ _ (TAL.setTop (mkF m 43 #[.val (.ref r0), .val (.int p1), .val (.int p2), .val (.int p3), .val (.int ((own_iushr (lo + hi) (1 : Int32)) + (1 : Int32))), .val (.int hi), .val (.int (own_iushr (lo + hi) (1 : Int32)))] []))
          refine own_go (fun _ k => XS.goto XAL.here hx rfl (pc0 := 43) (pc' := 6) rfl (hb hby d4_43) (by decide) (by decide) k) ?_
          show own_Fin _ _ _ _ _ _ _ (TAL.setTop (mkF m 6 #[.val (.ref r0), .val (.int p1), .val (.int p2), .val (.int p3), .val (.int ((own_iushr (lo + hi) (1 : Int32)) + (1 : Int32))), .val (.int hi), .val (.int (own_iushr (lo + hi) (1 : Int32)))] []))
          exact ihA _ (by subst hkA; exact (own_mid hlo.1 hc1).2.2.1) (((own_iushr (lo + hi) (1 : Int32)) + (1 : Int32))) (hi) (.val (.int (own_iushr (lo + hi) (1 : Int32)))) TAL _ rfl (by rw [← hinv, own_fal1 hlo.1 hc1, if_pos hc2]) (own_fb1 hlo hc1) (own_mono XAL (by decide) (by decide)) NAL eAL (One.val rfl)
        · refine own_go (fun _ k => XS.icmpYes XAL.here hx rfl (pc0 := 27) (pc' := 39) rfl (hb hby d4_27) rfl (flt hc2).2.1 (by decide) (by decide) k) ?_
          show own_Fin _ _ _ _ _ _ _ (TAL.setTop (mkF m 39 #[.val (.ref r0), .val (.int p1), .val (.int p2), .val (.int p3), .val (.int lo), .val (.int hi), .val (.int (own_iushr (lo + hi) (1 : Int32)))] []))
          refine own_go (fun _ k => XS.iload XAL.here hx rfl (hb hby d4_39) rfl k) ?_
          show own_Fin _ _ _ _ _ _ _ (TAL.setTop (mkF m 41 #[.val (.ref r0), .val (.int p1), .val (.int p2), .val (.int p3), .val (.int lo), .val (.int hi), .val (.int (own_iushr (lo + hi) (1 : Int32)))] [(.int (own_iushr (lo + hi) (1 : Int32)))]))
          refine own_go (fun _ k => XS.istore XAL.here hx rfl (hb hby d4_41) rfl (l' := #[.val (.ref r0), .val (.int p1), .val (.int p2), .val (.int p3), .val (.int lo), .val (.int (own_iushr (lo + hi) (1 : Int32))), .val (.int (own_iushr (lo + hi) (1 : Int32)))]) rfl k) ?_
          show own_Fin _ _ _ _ _ _ _ (TAL.setTop (mkF m 43 #[.val (.ref r0), .val (.int p1), .val (.int p2), .val (.int p3), .val (.int lo), .val (.int (own_iushr (lo + hi) (1 : Int32))), .val (.int (own_iushr (lo + hi) (1 : Int32)))] []))
          refine own_go (fun _ k => XS.goto XAL.here hx rfl (pc0 := 43) (pc' := 6) rfl (hb hby d4_43) (by decide) (by decide) k) ?_
          show own_Fin _ _ _ _ _ _ _ (TAL.setTop (mkF m 6 #[.val (.ref r0), .val (.int p1), .val (.int p2), .val (.int p3), .val (.int lo), .val (.int (own_iushr (lo + hi) (1 : Int32))), .val (.int (own_iushr (lo + hi) (1 : Int32)))] []))
          exact ihA _ (by subst hkA; exact (own_mid hlo.1 hc1).2.2.2) (lo) ((own_iushr (lo + hi) (1 : Int32))) (.val (.int (own_iushr (lo + hi) (1 : Int32)))) TAL _ rfl (by rw [← hinv, own_fal1 hlo.1 hc1, if_neg hc2]) (own_fb2 hlo hc1) (own_mono XAL (by decide) (by decide)) NAL eAL (One.val rfl)
      · refine own_go (fun _ k => XS.icmpYes XAL.here hx rfl (pc0 := 10) (pc' := 46) rfl (hb hby d4_10) rfl (flt hc1).2.1 (by decide) (by decide) k) ?_
        show own_Fin _ _ _ _ _ _ _ (TAL.setTop (mkF m 46 #[.val (.ref r0), .val (.int p1), .val (.int p2), .val (.int p3), .val (.int lo), .val (.int hi), j6A] []))
        refine own_go (fun _ k => XS.iload XAL.here hx rfl (hb hby d4_46) rfl k) ?_
        show own_Fin _ _ _ _ _ _ _ (TAL.setTop (mkF m 48 #[.val (.ref r0), .val (.int p1), .val (.int p2), .val (.int p3), .val (.int lo), .val (.int hi), j6A] [(.int lo)]))
        refine own_ret XAL hx hlk Bd.returns rfl (Or.inl ⟨rfl, by simp, _, rfl⟩) (hb hby d4_48) (Nat.le_of_ble_eq_true rfl) (Nat.le_of_ble_eq_true rfl) ?_
        refine ⟨?_, NAL, eAL⟩
        · rw [← hinv, own_fal0 hc1]
  exact loopA _ (p1) (p2) (.unset) s₁ _ rfl rfl hp (own_mono X0 (by decide) (by decide)) N0 e0 One.u
theorem own_lt8 (f : Nat → Int32) (v : Int32) (hs : ∀ i j, i ≤ j → j < 8 → (f i).toInt ≤ (f j).toInt) : ∀ (n : Nat) (lo hi : Int32), (hi.toInt - lo.toInt).toNat ≤ n → 0 ≤ lo.toInt → lo.toInt ≤ hi.toInt → hi.toInt ≤ 8 →
    ∃ r : Nat, (own_falE f v lo hi).toInt = r ∧ lo.toInt ≤ r ∧ (r : Int) ≤ hi.toInt ∧ (∀ i : Nat, lo.toInt ≤ i → i < r → (f i).toInt < v.toInt) ∧ (∀ i : Nat, r ≤ i → (i : Int) < hi.toInt → v.toInt ≤ (f i).toInt) := by
  intro n
  induction n with
  | zero =>
    intro lo hi h1 h2 h3 h4
    have e : ¬ lo < hi := by rw [Int32.lt_iff_toInt_lt]; omega
    rw [own_fal0 e]
    exact ⟨lo.toInt.toNat, by omega, by omega, by omega, fun i a b => by omega, fun i a b => by omega⟩
  | succ n ih =>
    intro lo hi h1 h2 h3 h4
    by_cases h : lo < hi
    · have h0 : ¬ lo < (0 : Int32) := by rw [Int32.lt_iff_toInt_lt, show (0 : Int32).toInt = 0 from by decide]; omega
      obtain ⟨m1, m2⟩ := own_midv h0 h
      have h' := h
      rw [Int32.lt_iff_toInt_lt] at h'
      rw [own_fal1 h0 h]
      have mi : (own_iushr (lo + hi) (1 : Int32)).toNatClampNeg = ((lo.toInt + hi.toInt) / 2).toNat := by simp only [Int32.toNatClampNeg, m1]
      rw [mi]
      by_cases c : f ((lo.toInt + hi.toInt) / 2).toNat < v
      · rw [if_pos c]
        obtain ⟨r, e, a1, a2, a3, a4⟩ := ih ((own_iushr (lo + hi) (1 : Int32)) + 1) hi (by omega) (by omega) (by omega) h4
        refine ⟨r, e, by omega, a2, fun i b1 b2 => ?_, a4⟩
        by_cases q : (lo.toInt + hi.toInt) / 2 + 1 ≤ i
        · exact a3 i (by omega) b2
        · rw [Int32.lt_iff_toInt_lt] at c
          have := hs i ((lo.toInt + hi.toInt) / 2).toNat (by omega) (by omega)
          omega
      · rw [if_neg c]
        obtain ⟨r, e, a1, a2, a3, a4⟩ := ih lo (own_iushr (lo + hi) (1 : Int32)) (by omega) (by omega) (by omega) (by omega)
        refine ⟨r, e, a1, by omega, a3, fun i b1 b2 => ?_⟩
        by_cases q : (i : Int) < (lo.toInt + hi.toInt) / 2
        · exact a4 i b1 (by omega)
        · rw [Int32.lt_iff_toInt_lt] at c
          have := hs ((lo.toInt + hi.toInt) / 2).toNat i (by omega) (by omega)
          omega
    · have e : ¬ lo < hi := h
      rw [Int32.lt_iff_toInt_lt] at h
      rw [own_fal0 e]
      exact ⟨lo.toInt.toNat, by omega, by omega, by omega, fun i a b => by omega, fun i a b => by omega⟩
theorem own_term (f : Nat → Int32) (v a b : Int32) (r : Nat) (k : Nat) (i : Int32) (hi : i.toInt = k) (h1 : a.toInt ≤ r) (h2 : (r : Int) ≤ b.toInt) (h3 : ∀ i : Nat, a.toInt ≤ i → i < r → (f i).toInt < v.toInt) (h4 : ∀ i : Nat, r ≤ i → (i : Int) < b.toInt → v.toInt ≤ (f i).toInt) :
    (own_f3 i a b v f).toInt = (if k < r then 1 else 0) - (if (k : Int) < a.toInt then 1 else 0) := by
  have e : i.toNatClampNeg = k := by simp only [Int32.toNatClampNeg, hi]; omega
  simp only [own_f3, e, Int32.lt_iff_toInt_lt, hi]
  have q3 := h3 k
  have q4 := h4 k
  repeat' split
  all_goals first | rfl | omega | (exfalso; omega)
theorem own_sum8 (r : Nat) (h : r ≤ 8) : (if 0 < r then (1 : Int) else 0) + (if 1 < r then 1 else 0) + (if 2 < r then 1 else 0) + (if 3 < r then 1 else 0) + (if 4 < r then 1 else 0) + (if 5 < r then 1 else 0) + (if 6 < r then 1 else 0) + (if 7 < r then 1 else 0) = r := by
  rcases (show r = 0 ∨ r = 1 ∨ r = 2 ∨ r = 3 ∨ r = 4 ∨ r = 5 ∨ r = 6 ∨ r = 7 ∨ r = 8 by omega) with q | q | q | q | q | q | q | q | q <;> subst q <;> rfl
theorem own_next (p : Int32) (q : Int64) (i s : Int32) (hs : 0 ≤ s.toInt ∧ s.toInt ≤ 31) : p.toInt ≤ (own_f1 p q i s).toInt := by
  obtain ⟨k, hk⟩ : ∃ k : Nat, s.toInt = k := ⟨s.toInt.toNat, by omega⟩
  have hk' : k ≤ 31 := by omega
  have m := c_maskL (own_lushr q (4 * i)) 15 4 (by decide) (by decide)
  rw [show ((2 ^ 4 : Nat) : Int) = 16 from by decide] at m
  have sh : s.toBitVec.toNat % 64 = k := by
    have e : s.toBitVec.toInt = k := hk
    have := s.toBitVec.isLt
    rw [BitVec.toInt_eq_toNat_cond] at e
    split at e <;> omega
  simp only [own_f1, own_f2]
  generalize (own_lushr q ((4 : Int32) * i) &&& (15 : Int64)) = x at *
  have c : ((own_lshl x s).toInt - x.toInt * (2 ^ k : Nat)) % 18446744073709551616 = 0 := c_lshl x s k sh
  have r1 := rng64 (own_lshl x s)
  have P1 : (2 ^ k : Nat) ≤ 2 ^ 31 := Nat.pow_le_pow_right (by decide) hk'
  have P2 : 0 < (2 ^ k : Nat) := Nat.two_pow_pos k
  generalize (2 ^ k : Nat) = P at *
  have x0 : 0 ≤ x.toInt ∧ x.toInt ≤ 15 := by omega
  have X1 : x.toInt * (P : Int) ≤ 15 * (P : Int) := Int.mul_le_mul_of_nonneg_right x0.2 (by omega)
  have X0 : 0 ≤ x.toInt * (P : Int) := Int.mul_nonneg x0.1 (by omega)
  generalize own_lshl x s = z at *
  generalize x.toInt * (P : Int) = X at *
  have z0 : 0 ≤ z.toInt ∧ z.toInt ≤ 32212254720 := by omega
  have a := c_i2l p
  have r2 := rng32 p
  have b := c_ladd p.toInt64 z
  have r3 := rng64 (p.toInt64 + z)
  have M : (2147483647 : Int64).toInt = 2147483647 := by decide
  split
  · rw [show ((2147483647 : Int64).toInt32).toInt = 2147483647 from by decide]; omega
  · rename_i h
    rw [Int64.lt_iff_toInt_lt, M] at h
    have l := c_l2i (p.toInt64 + z)
    have r4 := rng32 (p.toInt64 + z).toInt32
    omega
theorem own_rr (x : Int32) : 0 ≤ ((x &&& (255 : Int32)) % (9 : Int32)).toInt ∧ ((x &&& (255 : Int32)) % (9 : Int32)).toInt ≤ 8 ∧ 1 ≤ ((9 : Int32) - ((x &&& (255 : Int32)) % (9 : Int32))).toInt ∧ ((x &&& (255 : Int32)) % (9 : Int32)).toInt ≤ (((x &&& (255 : Int32)) % (9 : Int32)) + (((own_iushr x (8 : Int32)) &&& (255 : Int32)) % ((9 : Int32) - ((x &&& (255 : Int32)) % (9 : Int32))))).toInt ∧ (((x &&& (255 : Int32)) % (9 : Int32)) + (((own_iushr x (8 : Int32)) &&& (255 : Int32)) % ((9 : Int32) - ((x &&& (255 : Int32)) % (9 : Int32))))).toInt ≤ 8 := by
  have m0 := c_and x 255 (by decide)
  have d0 := (c_irem (x &&& 255) 9 9 (by decide)).1 m0.1
  have m1 := c_and (own_iushr x 8) 255 (by decide)
  generalize (x &&& (255 : Int32)) % (9 : Int32) = a at *
  have b := c_isub 9 a
  have r := rng32 (9 - a)
  rw [show (9 : Int32).toInt = 9 from by decide] at b
  have v := (c_iremV (own_iushr x 8 &&& 255) (9 - a)).1 m1.1 (by omega)
  have k := c_iadd a ((own_iushr x 8 &&& 255) % (9 - a))
  have r2 := rng32 (a + (own_iushr x 8 &&& 255) % (9 - a))
  omega
theorem own_rg (x : Int32) : ¬ ((x &&& (255 : Int32)) % (9 : Int32)) < (0 : Int32) ∧ (((x &&& (255 : Int32)) % (9 : Int32)) + (((own_iushr x (8 : Int32)) &&& (255 : Int32)) % ((9 : Int32) - ((x &&& (255 : Int32)) % (9 : Int32))))) ≤ (8 : Int32) := by
  have h := own_rr x
  rw [Int32.lt_iff_toInt_lt, Int32.le_iff_toInt_le, show (0 : Int32).toInt = 0 from by decide, show (8 : Int32).toInt = 8 from by decide]
  omega
theorem own_nz (x : Int32) : ((9 : Int32) - ((x &&& (255 : Int32)) % (9 : Int32))) ≠ 0 := by
  have h := own_rr x
  intro q
  rw [q] at h
  have := h.2.2.1
  revert this; decide

theorem own_pd74 : parseMethodDescriptor "(IJII)I" = some ⟨[.int, .long, .int, .int], some .int⟩ := by decide +kernel
theorem own_pd75 : parseMethodDescriptor "([IIIII)I" = some ⟨[(.array .int), .int, .int, .int, .int], some .int⟩ := by decide +kernel
theorem own_pd76 : parseMethodDescriptor "([IIII)I" = some ⟨[(.array .int), .int, .int, .int], some .int⟩ := by decide +kernel
theorem pn_0 : plainName "com/example/reachability/reachability/CandidateListFirstAtLeastPinLaw" = true := by first | (simp [plainName, overriddenIn]; done) | decide +kernel
theorem ef_0 (m : MethodId) (p0 : Int32) (q1 : Int64) (p2 : Int32) (p3 : Int32) : entryFrame m #[(.int p0), (.long q1), (.int p2), (.int p3)] maxLocals = mkF m 0 #[.val (.int p0), .val (.long q1), .second, .val (.int p2), .val (.int p3), .unset, .unset, .unset, .unset, .unset, .unset] [] := by first | (simp [entryFrame, mkF, argsToLocals, Value.category, maxLocals]; done) | rfl
def own_f0 (p0 : Int32) (q1 : Int64) (p2 : Int32) (p3 : Int32) : Int32 := let z1 := (((own_lushr q1 (40 : Int32)) &&& (31 : Int64)).toInt32); let f3 := (own_set (fun _ => (0 : Int32)) (0 : Int32) p0); let f5 := (own_set f3 (1 : Int32) (own_f1 (f3 0) q1 (0 : Int32) z1)); let f7 := (own_set f5 (2 : Int32) (own_f1 (f5 1) q1 (1 : Int32) z1)); let f9 := (own_set f7 (3 : Int32) (own_f1 (f7 2) q1 (2 : Int32) z1)); let f11 := (own_set f9 (4 : Int32) (own_f1 (f9 3) q1 (3 : Int32) z1)); let f13 := (own_set f11 (5 : Int32) (own_f1 (f11 4) q1 (4 : Int32) z1)); let f15 := (own_set f13 (6 : Int32) (own_f1 (f13 5) q1 (5 : Int32) z1)); let f17 := (own_set f15 (7 : Int32) (own_f1 (f15 6) q1 (6 : Int32) z1)); let z18 := (((p2 &&& (255 : Int32)) % (9 : Int32)) + (((own_iushr p2 (8 : Int32)) &&& (255 : Int32)) % ((9 : Int32) - ((p2 &&& (255 : Int32)) % (9 : Int32))))); let z21 := ((((p2 &&& (255 : Int32)) % (9 : Int32)) + (own_f3 (0 : Int32) ((p2 &&& (255 : Int32)) % (9 : Int32)) z18 p3 f17)) + (own_f3 (1 : Int32) ((p2 &&& (255 : Int32)) % (9 : Int32)) z18 p3 f17)); let z24 := ((z21 + (own_f3 (2 : Int32) ((p2 &&& (255 : Int32)) % (9 : Int32)) z18 p3 f17)) + (own_f3 (3 : Int32) ((p2 &&& (255 : Int32)) % (9 : Int32)) z18 p3 f17)); let z27 := ((z24 + (own_f3 (4 : Int32) ((p2 &&& (255 : Int32)) % (9 : Int32)) z18 p3 f17)) + (own_f3 (5 : Int32) ((p2 &&& (255 : Int32)) % (9 : Int32)) z18 p3 f17)); let z30 := ((z27 + (own_f3 (6 : Int32) ((p2 &&& (255 : Int32)) % (9 : Int32)) z18 p3 f17)) + (own_f3 (7 : Int32) ((p2 &&& (255 : Int32)) % (9 : Int32)) z18 p3 f17)); let z32 := (own_falE f17 p3 ((p2 &&& (255 : Int32)) % (9 : Int32)) z18); (if z32 = z30 then ((1 : Int32)) else ((0 : Int32)))
theorem own_lf_own_f0_1 {p0 : Int32} {q1 : Int64} {p2 : Int32} {p3 : Int32} {z1 : Int32} {f3 : Nat → Int32} {f5 : Nat → Int32} {f7 : Nat → Int32} {f9 : Nat → Int32} {f11 : Nat → Int32} {f13 : Nat → Int32} {f15 : Nat → Int32} {f17 : Nat → Int32} {z18 : Int32} {z21 : Int32} {z24 : Int32} {z27 : Int32} {z30 : Int32} {z32 : Int32} (hz1 : (((own_lushr q1 (40 : Int32)) &&& (31 : Int64)).toInt32) = z1) (hf3 : f3 = (own_set (fun _ => (0 : Int32)) (0 : Int32) p0)) (hf5 : f5 = (own_set f3 (1 : Int32) (own_f1 (f3 0) q1 (0 : Int32) z1))) (hf7 : f7 = (own_set f5 (2 : Int32) (own_f1 (f5 1) q1 (1 : Int32) z1))) (hf9 : f9 = (own_set f7 (3 : Int32) (own_f1 (f7 2) q1 (2 : Int32) z1))) (hf11 : f11 = (own_set f9 (4 : Int32) (own_f1 (f9 3) q1 (3 : Int32) z1))) (hf13 : f13 = (own_set f11 (5 : Int32) (own_f1 (f11 4) q1 (4 : Int32) z1))) (hf15 : f15 = (own_set f13 (6 : Int32) (own_f1 (f13 5) q1 (5 : Int32) z1))) (hf17 : f17 = (own_set f15 (7 : Int32) (own_f1 (f15 6) q1 (6 : Int32) z1))) (hz18 : (((p2 &&& (255 : Int32)) % (9 : Int32)) + (((own_iushr p2 (8 : Int32)) &&& (255 : Int32)) % ((9 : Int32) - ((p2 &&& (255 : Int32)) % (9 : Int32))))) = z18) (hz21 : ((((p2 &&& (255 : Int32)) % (9 : Int32)) + (own_f3 (0 : Int32) ((p2 &&& (255 : Int32)) % (9 : Int32)) z18 p3 f17)) + (own_f3 (1 : Int32) ((p2 &&& (255 : Int32)) % (9 : Int32)) z18 p3 f17)) = z21) (hz24 : ((z21 + (own_f3 (2 : Int32) ((p2 &&& (255 : Int32)) % (9 : Int32)) z18 p3 f17)) + (own_f3 (3 : Int32) ((p2 &&& (255 : Int32)) % (9 : Int32)) z18 p3 f17)) = z24) (hz27 : ((z24 + (own_f3 (4 : Int32) ((p2 &&& (255 : Int32)) % (9 : Int32)) z18 p3 f17)) + (own_f3 (5 : Int32) ((p2 &&& (255 : Int32)) % (9 : Int32)) z18 p3 f17)) = z27) (hz30 : ((z27 + (own_f3 (6 : Int32) ((p2 &&& (255 : Int32)) % (9 : Int32)) z18 p3 f17)) + (own_f3 (7 : Int32) ((p2 &&& (255 : Int32)) % (9 : Int32)) z18 p3 f17)) = z30) (hz32 : (own_falE f17 p3 ((p2 &&& (255 : Int32)) % (9 : Int32)) z18) = z32) (hc33 : z32 = z30) : (some (.int (1 : Int32)) : Option Value) = some (.int (own_f0 p0 q1 p2 p3)) := by
  subst hz32
  subst hz30
  subst hz27
  subst hz24
  subst hz21
  subst hz18
  subst hf17
  subst hf15
  subst hf13
  subst hf11
  subst hf9
  subst hf7
  subst hf5
  subst hf3
  subst hz1
  first | (simp only [own_f0, if_pos hc33]; done) | (simp only [own_f0, if_pos hc33]; rfl) | rfl
theorem own_lf_own_f0_2 {p0 : Int32} {q1 : Int64} {p2 : Int32} {p3 : Int32} {z1 : Int32} {f3 : Nat → Int32} {f5 : Nat → Int32} {f7 : Nat → Int32} {f9 : Nat → Int32} {f11 : Nat → Int32} {f13 : Nat → Int32} {f15 : Nat → Int32} {f17 : Nat → Int32} {z18 : Int32} {z21 : Int32} {z24 : Int32} {z27 : Int32} {z30 : Int32} {z32 : Int32} (hz1 : (((own_lushr q1 (40 : Int32)) &&& (31 : Int64)).toInt32) = z1) (hf3 : f3 = (own_set (fun _ => (0 : Int32)) (0 : Int32) p0)) (hf5 : f5 = (own_set f3 (1 : Int32) (own_f1 (f3 0) q1 (0 : Int32) z1))) (hf7 : f7 = (own_set f5 (2 : Int32) (own_f1 (f5 1) q1 (1 : Int32) z1))) (hf9 : f9 = (own_set f7 (3 : Int32) (own_f1 (f7 2) q1 (2 : Int32) z1))) (hf11 : f11 = (own_set f9 (4 : Int32) (own_f1 (f9 3) q1 (3 : Int32) z1))) (hf13 : f13 = (own_set f11 (5 : Int32) (own_f1 (f11 4) q1 (4 : Int32) z1))) (hf15 : f15 = (own_set f13 (6 : Int32) (own_f1 (f13 5) q1 (5 : Int32) z1))) (hf17 : f17 = (own_set f15 (7 : Int32) (own_f1 (f15 6) q1 (6 : Int32) z1))) (hz18 : (((p2 &&& (255 : Int32)) % (9 : Int32)) + (((own_iushr p2 (8 : Int32)) &&& (255 : Int32)) % ((9 : Int32) - ((p2 &&& (255 : Int32)) % (9 : Int32))))) = z18) (hz21 : ((((p2 &&& (255 : Int32)) % (9 : Int32)) + (own_f3 (0 : Int32) ((p2 &&& (255 : Int32)) % (9 : Int32)) z18 p3 f17)) + (own_f3 (1 : Int32) ((p2 &&& (255 : Int32)) % (9 : Int32)) z18 p3 f17)) = z21) (hz24 : ((z21 + (own_f3 (2 : Int32) ((p2 &&& (255 : Int32)) % (9 : Int32)) z18 p3 f17)) + (own_f3 (3 : Int32) ((p2 &&& (255 : Int32)) % (9 : Int32)) z18 p3 f17)) = z24) (hz27 : ((z24 + (own_f3 (4 : Int32) ((p2 &&& (255 : Int32)) % (9 : Int32)) z18 p3 f17)) + (own_f3 (5 : Int32) ((p2 &&& (255 : Int32)) % (9 : Int32)) z18 p3 f17)) = z27) (hz30 : ((z27 + (own_f3 (6 : Int32) ((p2 &&& (255 : Int32)) % (9 : Int32)) z18 p3 f17)) + (own_f3 (7 : Int32) ((p2 &&& (255 : Int32)) % (9 : Int32)) z18 p3 f17)) = z30) (hz32 : (own_falE f17 p3 ((p2 &&& (255 : Int32)) % (9 : Int32)) z18) = z32) (hc33 : ¬ (z32 = z30)) : (some (.int (0 : Int32)) : Option Value) = some (.int (own_f0 p0 q1 p2 p3)) := by
  subst hz32
  subst hz30
  subst hz27
  subst hz24
  subst hz21
  subst hz18
  subst hf17
  subst hf15
  subst hf13
  subst hf11
  subst hf9
  subst hf7
  subst hf5
  subst hf3
  subst hz1
  first | (simp only [own_f0, if_neg hc33]; done) | (simp only [own_f0, if_neg hc33]; rfl) | rfl
set_option maxRecDepth 65536 in
set_option maxHeartbeats 40000000 in
theorem rm0 (l : Launch) (Z : State) (a0 : Array Value) (hw : ∀ d ∈ tables_1, d.before a0 Z = true) (ws : List Jvm.Cond) (p0 : Int32) (q1 : Int64) (p2 : Int32) (p3 : Int32) (h0 : Heap) (n0 : Nat) (Z0 : n0 ≤ h0.size) :
    MetFree l x (head1 (Jvm.Cond.code x code maxLocals ret :: ws) room_1) (fun a U => a = #[(.int p0), (.long q1), (.int p2), (.int p3)] ∧ Z.Warmed39 U.vm ∧ U.heap = h0) (fun _ _ _ _ _ => True) (fun _ U o U' => ∃ v L, o = .returned v ∧ own_QL (some (.int (own_f0 p0 q1 p2 p3))) n0 v U'.heap L ∧ FrameEnd U o U' L 16 128) := by
  refine MetFree.of_bodySF (plainFor_of_name pn_0) hisR ?_
  intro p e s m args below meth c s₁ Bd hml0 hP hK
  obtain ⟨rfl, hZ, hh⟩ := hP
  have hx := Bd.exec
  have hby := Bd.bytes
  have hml : c.maxLocals = 11 := hml0
  have hown : s.vm.findClass "com/example/reachability/reachability/CandidateListFirstAtLeastPinLaw" = some m.cls := findClass_of_methodNamed Bd.named
  have hnm := (name_of_methodNamed Bd.named Bd.method).1
  have hlk : meth.locks = false := BodyLoose.notSynchronized Bd
  have X0 : Stand p l e room_1 s m #[(.int p0), (.long q1), (.int p2), (.int p3)] below meth c s₁ [] 0 0 := Stand.of_body Bd
  have e0 : s₁.heap = h0 := by rw [← hh, Bd.state]; rfl
  have N0 := Fr.nil n0
  show own_Fin p.tables e below s (own_QL (some (.int (own_f0 p0 q1 p2 p3))) n0) 16 128 (s₁.setTop (entryFrame m #[(.int p0), (.long q1), (.int p2), (.int p3)] maxLocals))
  rw [ef_0]
  show own_Fin _ _ _ _ _ _ _ (s₁.setTop (mkF m 0 #[.val (.int p0), .val (.long q1), .second, .val (.int p2), .val (.int p3), .unset, .unset, .unset, .unset, .unset, .unset] []))
  refine own_go (fun _ k => XS.lloadN X0.here hx rfl (hb hby at_0) rfl k) ?_
  show own_Fin _ _ _ _ _ _ _ (s₁.setTop (mkF m 1 #[.val (.int p0), .val (.long q1), .second, .val (.int p2), .val (.int p3), .unset, .unset, .unset, .unset, .unset, .unset] [(.long q1)]))
  refine own_go (fun _ k => XS.bipush X0.here hx rfl (hb hby at_1) k) ?_
  show own_Fin _ _ _ _ _ _ _ (s₁.setTop (mkF m 3 #[.val (.int p0), .val (.long q1), .second, .val (.int p2), .val (.int p3), .unset, .unset, .unset, .unset, .unset, .unset] [(.int (40 : Int32)), (.long q1)]))
  refine own_go (fun _ k => XS.lushr X0.here hx rfl (hb hby at_3) rfl k) ?_
  show own_Fin _ _ _ _ _ _ _ (s₁.setTop (mkF m 4 #[.val (.int p0), .val (.long q1), .second, .val (.int p2), .val (.int p3), .unset, .unset, .unset, .unset, .unset, .unset] [(.long (own_lushr q1 (40 : Int32)))]))
  refine own_go (fun _ k => X0.ldc2Long hx hown (mvT hZ (hw _ (List.mem_of_getElem? (i := 0) rfl))) (g := (mkF m 4 #[.val (.int p0), .val (.long q1), .second, .val (.int p2), .val (.int p3), .unset, .unset, .unset, .unset, .unset, .unset] [(.long (own_lushr q1 (40 : Int32)))])) rfl (hb hby at_4) _ k) ?_
  show own_Fin _ _ _ _ _ _ _ (s₁.setTop (mkF m 7 #[.val (.int p0), .val (.long q1), .second, .val (.int p2), .val (.int p3), .unset, .unset, .unset, .unset, .unset, .unset] [(.long (31 : Int64)), (.long (own_lushr q1 (40 : Int32)))]))
  refine own_go (fun _ k => XS.land X0.here hx rfl (hb hby at_7) rfl k) ?_
  show own_Fin _ _ _ _ _ _ _ (s₁.setTop (mkF m 8 #[.val (.int p0), .val (.long q1), .second, .val (.int p2), .val (.int p3), .unset, .unset, .unset, .unset, .unset, .unset] [(.long ((own_lushr q1 (40 : Int32)) &&& (31 : Int64)))]))
  refine own_go (fun _ k => XS.l2i X0.here hx rfl (hb hby at_8) rfl k) ?_
  show own_Fin _ _ _ _ _ _ _ (s₁.setTop (mkF m 9 #[.val (.int p0), .val (.long q1), .second, .val (.int p2), .val (.int p3), .unset, .unset, .unset, .unset, .unset, .unset] [(.int (((own_lushr q1 (40 : Int32)) &&& (31 : Int64)).toInt32))]))
  refine own_go (fun _ k => XS.istore X0.here hx rfl (hb hby at_9) rfl (l' := #[.val (.int p0), .val (.long q1), .second, .val (.int p2), .val (.int p3), .val (.int (((own_lushr q1 (40 : Int32)) &&& (31 : Int64)).toInt32)), .unset, .unset, .unset, .unset, .unset]) rfl k) ?_
  show own_Fin _ _ _ _ _ _ _ (s₁.setTop (mkF m 11 #[.val (.int p0), .val (.long q1), .second, .val (.int p2), .val (.int p3), .val (.int (((own_lushr q1 (40 : Int32)) &&& (31 : Int64)).toInt32)), .unset, .unset, .unset, .unset, .unset] []))
  generalize hz1 : (((own_lushr q1 (40 : Int32)) &&& (31 : Int64)).toInt32) = z1
  show own_Fin _ _ _ _ _ _ _ (s₁.setTop (mkF m 11 #[.val (.int p0), .val (.long q1), .second, .val (.int p2), .val (.int p3), .val (.int z1), .unset, .unset, .unset, .unset, .unset] []))
  refine own_go (fun _ k => XS.bipush X0.here hx rfl (hb hby at_11) k) ?_
  show own_Fin _ _ _ _ _ _ _ (s₁.setTop (mkF m 13 #[.val (.int p0), .val (.long q1), .second, .val (.int p2), .val (.int p3), .val (.int z1), .unset, .unset, .unset, .unset, .unset] [(.int (8 : Int32))]))
  obtain ⟨T2, h2, k2, X2, e2, E2, A2, st2⟩ := newP X0 hx hZ (hw _ (List.mem_of_getElem? (i := 1) rfl)) e0 (g := (mkF m 13 #[.val (.int p0), .val (.long q1), .second, .val (.int p2), .val (.int p3), .val (.int z1), .unset, .unset, .unset, .unset, .unset] [(.int (8 : Int32))])) rfl (hb hby at_13) rfl (by decide) (cap := 8) (by decide) (by decide) (by decide) (by decide)
  obtain ⟨b2, g2⟩ : ∃ z, z = h0.size := ⟨_, rfl⟩
  rw [← g2] at A2 st2
  have ge_b2 : n0 ≤ b2 := Nat.le_trans Z0 (Nat.le_of_eq g2.symm)
  have Z2 : n0 ≤ h2.size := Nat.le_trans Z0 E2.1
  have A_b2_2 : own_Arf Z h2 b2 .int (8 : Int32) (fun i => .int ((fun _ => (0 : Int32)) i)) := own_Arf.new A2 (by decide)
  refine own_go (fun tg k => st2 tg k) ?_
  show own_Fin _ _ _ _ _ _ _ (T2.setTop (mkF m 15 #[.val (.int p0), .val (.long q1), .second, .val (.int p2), .val (.int p3), .val (.int z1), .unset, .unset, .unset, .unset, .unset] [(.ref b2)]))
  refine own_go (fun _ k => XS.astore X2.here hx rfl (hb hby at_15) rfl rfl (l' := #[.val (.int p0), .val (.long q1), .second, .val (.int p2), .val (.int p3), .val (.int z1), .val (.ref b2), .unset, .unset, .unset, .unset]) rfl k) ?_
  show own_Fin _ _ _ _ _ _ _ (T2.setTop (mkF m 17 #[.val (.int p0), .val (.long q1), .second, .val (.int p2), .val (.int p3), .val (.int z1), .val (.ref b2), .unset, .unset, .unset, .unset] []))
  refine own_go (fun _ k => XS.aload X2.here hx rfl (hb hby at_17) rfl rfl k) ?_
  show own_Fin _ _ _ _ _ _ _ (T2.setTop (mkF m 19 #[.val (.int p0), .val (.long q1), .second, .val (.int p2), .val (.int p3), .val (.int z1), .val (.ref b2), .unset, .unset, .unset, .unset] [(.ref b2)]))
  refine own_go (fun _ k => XS.iconst X2.here hx rfl (hb hby at_19) k) ?_
  show own_Fin _ _ _ _ _ _ _ (T2.setTop (mkF m 20 #[.val (.int p0), .val (.long q1), .second, .val (.int p2), .val (.int p3), .val (.int z1), .val (.ref b2), .unset, .unset, .unset, .unset] [(.int (0 : Int32)), (.ref b2)]))
  refine own_go (fun _ k => XS.iloadN X2.here hx rfl (hb hby at_20) rfl k) ?_
  show own_Fin _ _ _ _ _ _ _ (T2.setTop (mkF m 21 #[.val (.int p0), .val (.long q1), .second, .val (.int p2), .val (.int p3), .val (.int z1), .val (.ref b2), .unset, .unset, .unset, .unset] [(.int p0), (.int (0 : Int32)), (.ref b2)]))
  obtain ⟨T3, h3, X3, e3, W3, A_b2_3, st3⟩ := own_stI X2 hx hZ e2 A_b2_2 (j := (0 : Int32)) ⟨by decide, by decide⟩ (g := (mkF m 21 #[.val (.int p0), .val (.long q1), .second, .val (.int p2), .val (.int p3), .val (.int z1), .val (.ref b2), .unset, .unset, .unset, .unset] [(.int p0), (.int (0 : Int32)), (.ref b2)])) rfl rfl (hb hby at_21)
  have N3 := Fr.snoc X3 N0 ge_b2
  have Z3 : n0 ≤ h3.size := Nat.le_trans Z2 (Keep.of_wr W3).1
  obtain ⟨f3, hf3⟩ : ∃ z, z = (own_set (fun _ => (0 : Int32)) (0 : Int32) p0) := ⟨_, rfl⟩
  rw [← hf3] at A_b2_3
  refine own_go (fun tg k => st3 tg k) ?_
  show own_Fin _ _ _ _ _ _ _ (T3.setTop (mkF m 22 #[.val (.int p0), .val (.long q1), .second, .val (.int p2), .val (.int p3), .val (.int z1), .val (.ref b2), .unset, .unset, .unset, .unset] []))
  refine own_go (fun _ k => XS.aload X3.here hx rfl (hb hby at_22) rfl rfl k) ?_
  show own_Fin _ _ _ _ _ _ _ (T3.setTop (mkF m 24 #[.val (.int p0), .val (.long q1), .second, .val (.int p2), .val (.int p3), .val (.int z1), .val (.ref b2), .unset, .unset, .unset, .unset] [(.ref b2)]))
  refine own_go (fun _ k => XS.iconst X3.here hx rfl (hb hby at_24) k) ?_
  show own_Fin _ _ _ _ _ _ _ (T3.setTop (mkF m 25 #[.val (.int p0), .val (.long q1), .second, .val (.int p2), .val (.int p3), .val (.int z1), .val (.ref b2), .unset, .unset, .unset, .unset] [(.int (1 : Int32)), (.ref b2)]))
  refine own_go (fun _ k => XS.aload X3.here hx rfl (hb hby at_25) rfl rfl k) ?_
  show own_Fin _ _ _ _ _ _ _ (T3.setTop (mkF m 27 #[.val (.int p0), .val (.long q1), .second, .val (.int p2), .val (.int p3), .val (.int z1), .val (.ref b2), .unset, .unset, .unset, .unset] [(.ref b2), (.int (1 : Int32)), (.ref b2)]))
  refine own_go (fun _ k => XS.iconst X3.here hx rfl (hb hby at_27) k) ?_
  show own_Fin _ _ _ _ _ _ _ (T3.setTop (mkF m 28 #[.val (.int p0), .val (.long q1), .second, .val (.int p2), .val (.int p3), .val (.int z1), .val (.ref b2), .unset, .unset, .unset, .unset] [(.int (0 : Int32)), (.ref b2), (.int (1 : Int32)), (.ref b2)]))
  refine own_go (fun tg k => own_iaload X3 hx hZ e3 A_b2_3 (j := (0 : Int32)) ⟨by decide, by decide⟩ (x := (f3 0)) rfl (g := (mkF m 28 #[.val (.int p0), .val (.long q1), .second, .val (.int p2), .val (.int p3), .val (.int z1), .val (.ref b2), .unset, .unset, .unset, .unset] [(.int (0 : Int32)), (.ref b2), (.int (1 : Int32)), (.ref b2)])) rfl rfl (hb hby at_28) tg k) ?_
  show own_Fin _ _ _ _ _ _ _ (T3.setTop (mkF m 29 #[.val (.int p0), .val (.long q1), .second, .val (.int p2), .val (.int p3), .val (.int z1), .val (.ref b2), .unset, .unset, .unset, .unset] [(.int (f3 0)), (.int (1 : Int32)), (.ref b2)]))
  refine own_go (fun _ k => XS.lloadN X3.here hx rfl (hb hby at_29) rfl k) ?_
  show own_Fin _ _ _ _ _ _ _ (T3.setTop (mkF m 30 #[.val (.int p0), .val (.long q1), .second, .val (.int p2), .val (.int p3), .val (.int z1), .val (.ref b2), .unset, .unset, .unset, .unset] [(.long q1), (.int (f3 0)), (.int (1 : Int32)), (.ref b2)]))
  refine own_go (fun _ k => XS.iconst X3.here hx rfl (hb hby at_30) k) ?_
  show own_Fin _ _ _ _ _ _ _ (T3.setTop (mkF m 31 #[.val (.int p0), .val (.long q1), .second, .val (.int p2), .val (.int p3), .val (.int z1), .val (.ref b2), .unset, .unset, .unset, .unset] [(.int (0 : Int32)), (.long q1), (.int (f3 0)), (.int (1 : Int32)), (.ref b2)]))
  refine own_go (fun _ k => XS.iload X3.here hx rfl (hb hby at_31) rfl k) ?_
  show own_Fin _ _ _ _ _ _ _ (T3.setTop (mkF m 33 #[.val (.int p0), .val (.long q1), .second, .val (.int p2), .val (.int p3), .val (.int z1), .val (.ref b2), .unset, .unset, .unset, .unset] [(.int z1), (.int (0 : Int32)), (.long q1), (.int (f3 0)), (.int (1 : Int32)), (.ref b2)]))
  obtain ⟨_, _, ⟨T4, L4, k4, n4⟩, -, X4, ⟨Lc4, hQ4, l4, y4, z4⟩, st4⟩ := Jvm.LawKit.callS X3 hx (y := (⟨"com/example/reachability/reachability/CandidateListFirstAtLeastPinLaw", "next", "(IJII)I"⟩ : MethodName)) hown (mvT hZ (hw _ (List.mem_of_getElem? (i := 2) rfl))) (mvT hZ (hw _ (List.mem_of_getElem? (i := 3) rfl))) (mvT hZ (hw _ (List.mem_of_getElem? (i := 4) rfl))) (mvT hZ (hw _ (List.mem_of_getElem? (i := 5) rfl))) (by decide) (backOf (W := 2) (rm1 l Z a0 hw [] (f3 0) q1 (0 : Int32) z1 h3 n0 Z3) hZ (hw _ (List.mem_of_getElem? (i := 5) rfl)) (hw _ (List.mem_of_getElem? (i := 4) rfl)) (by decide) (by decide)) (g := (mkF m 33 #[.val (.int p0), .val (.long q1), .second, .val (.int p2), .val (.int p3), .val (.int z1), .val (.ref b2), .unset, .unset, .unset, .unset] [(.int z1), (.int (0 : Int32)), (.long q1), (.int (f3 0)), (.int (1 : Int32)), (.ref b2)])) rfl (by rw [hml]; rfl) (argsL := [(.int (f3 0)), (.long q1), (.int (0 : Int32)), (.int z1)]) (rest := [(.int (1 : Int32)), (.ref b2)]) (lenOf own_pd74 rfl) rfl (by show 2 * 0 + _ ≤ _; exact Nat.le_of_eq rfl) (hb hby at_33) (fun _ _ => ⟨rfl, e3, (by decide : 1 + 0 ≤ _), (by decide : 8 + 0 ≤ _)⟩)
  dsimp only [Pt.U, Pt.locs, Pt.cells, Pt.slots] at X4 l4 y4 z4 st4 hQ4
  replace y4 : 1 = k4 := y4.symm
  replace z4 : 8 = n4 := z4.symm
  subst y4 z4
  obtain ⟨rfl, N4q, e4⟩ := hQ4
  have N4 : Fr n0 L4 := by rw [l4]; exact Fr.app N3 N4q
  refine own_go (fun tg k => st4 tg k) ?_
  show own_Fin _ _ _ _ _ _ _ (T4.setTop (mkF m 36 #[.val (.int p0), .val (.long q1), .second, .val (.int p2), .val (.int p3), .val (.int z1), .val (.ref b2), .unset, .unset, .unset, .unset] [(.int (own_f1 (f3 0) q1 (0 : Int32) z1)), (.int (1 : Int32)), (.ref b2)]))
  obtain ⟨T5, h5, X5, e5, W5, A_b2_5, st5⟩ := own_stI X4 hx hZ e4 A_b2_3 (j := (1 : Int32)) ⟨by decide, by decide⟩ (g := (mkF m 36 #[.val (.int p0), .val (.long q1), .second, .val (.int p2), .val (.int p3), .val (.int z1), .val (.ref b2), .unset, .unset, .unset, .unset] [(.int (own_f1 (f3 0) q1 (0 : Int32) z1)), (.int (1 : Int32)), (.ref b2)])) rfl rfl (hb hby at_36)
  have N5 := Fr.snoc X5 N4 ge_b2
  have Z5 : n0 ≤ h5.size := Nat.le_trans Z3 (Keep.of_wr W5).1
  obtain ⟨f5, hf5⟩ : ∃ z, z = (own_set f3 (1 : Int32) (own_f1 (f3 0) q1 (0 : Int32) z1)) := ⟨_, rfl⟩
  rw [← hf5] at A_b2_5
  refine own_go (fun tg k => st5 tg k) ?_
  show own_Fin _ _ _ _ _ _ _ (T5.setTop (mkF m 37 #[.val (.int p0), .val (.long q1), .second, .val (.int p2), .val (.int p3), .val (.int z1), .val (.ref b2), .unset, .unset, .unset, .unset] []))
  refine own_go (fun _ k => XS.aload X5.here hx rfl (hb hby at_37) rfl rfl k) ?_
  show own_Fin _ _ _ _ _ _ _ (T5.setTop (mkF m 39 #[.val (.int p0), .val (.long q1), .second, .val (.int p2), .val (.int p3), .val (.int z1), .val (.ref b2), .unset, .unset, .unset, .unset] [(.ref b2)]))
  refine own_go (fun _ k => XS.iconst X5.here hx rfl (hb hby at_39) k) ?_
  show own_Fin _ _ _ _ _ _ _ (T5.setTop (mkF m 40 #[.val (.int p0), .val (.long q1), .second, .val (.int p2), .val (.int p3), .val (.int z1), .val (.ref b2), .unset, .unset, .unset, .unset] [(.int (2 : Int32)), (.ref b2)]))
  refine own_go (fun _ k => XS.aload X5.here hx rfl (hb hby at_40) rfl rfl k) ?_
  show own_Fin _ _ _ _ _ _ _ (T5.setTop (mkF m 42 #[.val (.int p0), .val (.long q1), .second, .val (.int p2), .val (.int p3), .val (.int z1), .val (.ref b2), .unset, .unset, .unset, .unset] [(.ref b2), (.int (2 : Int32)), (.ref b2)]))
  refine own_go (fun _ k => XS.iconst X5.here hx rfl (hb hby at_42) k) ?_
  show own_Fin _ _ _ _ _ _ _ (T5.setTop (mkF m 43 #[.val (.int p0), .val (.long q1), .second, .val (.int p2), .val (.int p3), .val (.int z1), .val (.ref b2), .unset, .unset, .unset, .unset] [(.int (1 : Int32)), (.ref b2), (.int (2 : Int32)), (.ref b2)]))
  refine own_go (fun tg k => own_iaload X5 hx hZ e5 A_b2_5 (j := (1 : Int32)) ⟨by decide, by decide⟩ (x := (f5 1)) rfl (g := (mkF m 43 #[.val (.int p0), .val (.long q1), .second, .val (.int p2), .val (.int p3), .val (.int z1), .val (.ref b2), .unset, .unset, .unset, .unset] [(.int (1 : Int32)), (.ref b2), (.int (2 : Int32)), (.ref b2)])) rfl rfl (hb hby at_43) tg k) ?_
  show own_Fin _ _ _ _ _ _ _ (T5.setTop (mkF m 44 #[.val (.int p0), .val (.long q1), .second, .val (.int p2), .val (.int p3), .val (.int z1), .val (.ref b2), .unset, .unset, .unset, .unset] [(.int (f5 1)), (.int (2 : Int32)), (.ref b2)]))
  refine own_go (fun _ k => XS.lloadN X5.here hx rfl (hb hby at_44) rfl k) ?_
  show own_Fin _ _ _ _ _ _ _ (T5.setTop (mkF m 45 #[.val (.int p0), .val (.long q1), .second, .val (.int p2), .val (.int p3), .val (.int z1), .val (.ref b2), .unset, .unset, .unset, .unset] [(.long q1), (.int (f5 1)), (.int (2 : Int32)), (.ref b2)]))
  refine own_go (fun _ k => XS.iconst X5.here hx rfl (hb hby at_45) k) ?_
  show own_Fin _ _ _ _ _ _ _ (T5.setTop (mkF m 46 #[.val (.int p0), .val (.long q1), .second, .val (.int p2), .val (.int p3), .val (.int z1), .val (.ref b2), .unset, .unset, .unset, .unset] [(.int (1 : Int32)), (.long q1), (.int (f5 1)), (.int (2 : Int32)), (.ref b2)]))
  refine own_go (fun _ k => XS.iload X5.here hx rfl (hb hby at_46) rfl k) ?_
  show own_Fin _ _ _ _ _ _ _ (T5.setTop (mkF m 48 #[.val (.int p0), .val (.long q1), .second, .val (.int p2), .val (.int p3), .val (.int z1), .val (.ref b2), .unset, .unset, .unset, .unset] [(.int z1), (.int (1 : Int32)), (.long q1), (.int (f5 1)), (.int (2 : Int32)), (.ref b2)]))
  obtain ⟨_, _, ⟨T6, L6, k6, n6⟩, -, X6, ⟨Lc6, hQ6, l6, y6, z6⟩, st6⟩ := Jvm.LawKit.callS X5 hx (y := (⟨"com/example/reachability/reachability/CandidateListFirstAtLeastPinLaw", "next", "(IJII)I"⟩ : MethodName)) hown (mvT hZ (hw _ (List.mem_of_getElem? (i := 2) rfl))) (mvT hZ (hw _ (List.mem_of_getElem? (i := 3) rfl))) (mvT hZ (hw _ (List.mem_of_getElem? (i := 4) rfl))) (mvT hZ (hw _ (List.mem_of_getElem? (i := 5) rfl))) (by decide) (backOf (W := 2) (rm1 l Z a0 hw [] (f5 1) q1 (1 : Int32) z1 h5 n0 Z5) hZ (hw _ (List.mem_of_getElem? (i := 5) rfl)) (hw _ (List.mem_of_getElem? (i := 4) rfl)) (by decide) (by decide)) (g := (mkF m 48 #[.val (.int p0), .val (.long q1), .second, .val (.int p2), .val (.int p3), .val (.int z1), .val (.ref b2), .unset, .unset, .unset, .unset] [(.int z1), (.int (1 : Int32)), (.long q1), (.int (f5 1)), (.int (2 : Int32)), (.ref b2)])) rfl (by rw [hml]; rfl) (argsL := [(.int (f5 1)), (.long q1), (.int (1 : Int32)), (.int z1)]) (rest := [(.int (2 : Int32)), (.ref b2)]) (lenOf own_pd74 rfl) rfl (by show 2 * 0 + _ ≤ _; exact Nat.le_of_eq rfl) (hb hby at_48) (fun _ _ => ⟨rfl, e5, (by decide : 1 + 0 ≤ _), (by decide : 8 + 0 ≤ _)⟩)
  dsimp only [Pt.U, Pt.locs, Pt.cells, Pt.slots] at X6 l6 y6 z6 st6 hQ6
  replace y6 : 1 = k6 := y6.symm
  replace z6 : 8 = n6 := z6.symm
  subst y6 z6
  obtain ⟨rfl, N6q, e6⟩ := hQ6
  have N6 : Fr n0 L6 := by rw [l6]; exact Fr.app N5 N6q
  refine own_go (fun tg k => st6 tg k) ?_
  show own_Fin _ _ _ _ _ _ _ (T6.setTop (mkF m 51 #[.val (.int p0), .val (.long q1), .second, .val (.int p2), .val (.int p3), .val (.int z1), .val (.ref b2), .unset, .unset, .unset, .unset] [(.int (own_f1 (f5 1) q1 (1 : Int32) z1)), (.int (2 : Int32)), (.ref b2)]))
  obtain ⟨T7, h7, X7, e7, W7, A_b2_7, st7⟩ := own_stI X6 hx hZ e6 A_b2_5 (j := (2 : Int32)) ⟨by decide, by decide⟩ (g := (mkF m 51 #[.val (.int p0), .val (.long q1), .second, .val (.int p2), .val (.int p3), .val (.int z1), .val (.ref b2), .unset, .unset, .unset, .unset] [(.int (own_f1 (f5 1) q1 (1 : Int32) z1)), (.int (2 : Int32)), (.ref b2)])) rfl rfl (hb hby at_51)
  have N7 := Fr.snoc X7 N6 ge_b2
  have Z7 : n0 ≤ h7.size := Nat.le_trans Z5 (Keep.of_wr W7).1
  obtain ⟨f7, hf7⟩ : ∃ z, z = (own_set f5 (2 : Int32) (own_f1 (f5 1) q1 (1 : Int32) z1)) := ⟨_, rfl⟩
  rw [← hf7] at A_b2_7
  refine own_go (fun tg k => st7 tg k) ?_
  show own_Fin _ _ _ _ _ _ _ (T7.setTop (mkF m 52 #[.val (.int p0), .val (.long q1), .second, .val (.int p2), .val (.int p3), .val (.int z1), .val (.ref b2), .unset, .unset, .unset, .unset] []))
  refine own_go (fun _ k => XS.aload X7.here hx rfl (hb hby at_52) rfl rfl k) ?_
  show own_Fin _ _ _ _ _ _ _ (T7.setTop (mkF m 54 #[.val (.int p0), .val (.long q1), .second, .val (.int p2), .val (.int p3), .val (.int z1), .val (.ref b2), .unset, .unset, .unset, .unset] [(.ref b2)]))
  refine own_go (fun _ k => XS.iconst X7.here hx rfl (hb hby at_54) k) ?_
  show own_Fin _ _ _ _ _ _ _ (T7.setTop (mkF m 55 #[.val (.int p0), .val (.long q1), .second, .val (.int p2), .val (.int p3), .val (.int z1), .val (.ref b2), .unset, .unset, .unset, .unset] [(.int (3 : Int32)), (.ref b2)]))
  refine own_go (fun _ k => XS.aload X7.here hx rfl (hb hby at_55) rfl rfl k) ?_
  show own_Fin _ _ _ _ _ _ _ (T7.setTop (mkF m 57 #[.val (.int p0), .val (.long q1), .second, .val (.int p2), .val (.int p3), .val (.int z1), .val (.ref b2), .unset, .unset, .unset, .unset] [(.ref b2), (.int (3 : Int32)), (.ref b2)]))
  refine own_go (fun _ k => XS.iconst X7.here hx rfl (hb hby at_57) k) ?_
  show own_Fin _ _ _ _ _ _ _ (T7.setTop (mkF m 58 #[.val (.int p0), .val (.long q1), .second, .val (.int p2), .val (.int p3), .val (.int z1), .val (.ref b2), .unset, .unset, .unset, .unset] [(.int (2 : Int32)), (.ref b2), (.int (3 : Int32)), (.ref b2)]))
  refine own_go (fun tg k => own_iaload X7 hx hZ e7 A_b2_7 (j := (2 : Int32)) ⟨by decide, by decide⟩ (x := (f7 2)) rfl (g := (mkF m 58 #[.val (.int p0), .val (.long q1), .second, .val (.int p2), .val (.int p3), .val (.int z1), .val (.ref b2), .unset, .unset, .unset, .unset] [(.int (2 : Int32)), (.ref b2), (.int (3 : Int32)), (.ref b2)])) rfl rfl (hb hby at_58) tg k) ?_
  show own_Fin _ _ _ _ _ _ _ (T7.setTop (mkF m 59 #[.val (.int p0), .val (.long q1), .second, .val (.int p2), .val (.int p3), .val (.int z1), .val (.ref b2), .unset, .unset, .unset, .unset] [(.int (f7 2)), (.int (3 : Int32)), (.ref b2)]))
  refine own_go (fun _ k => XS.lloadN X7.here hx rfl (hb hby at_59) rfl k) ?_
  show own_Fin _ _ _ _ _ _ _ (T7.setTop (mkF m 60 #[.val (.int p0), .val (.long q1), .second, .val (.int p2), .val (.int p3), .val (.int z1), .val (.ref b2), .unset, .unset, .unset, .unset] [(.long q1), (.int (f7 2)), (.int (3 : Int32)), (.ref b2)]))
  refine own_go (fun _ k => XS.iconst X7.here hx rfl (hb hby at_60) k) ?_
  show own_Fin _ _ _ _ _ _ _ (T7.setTop (mkF m 61 #[.val (.int p0), .val (.long q1), .second, .val (.int p2), .val (.int p3), .val (.int z1), .val (.ref b2), .unset, .unset, .unset, .unset] [(.int (2 : Int32)), (.long q1), (.int (f7 2)), (.int (3 : Int32)), (.ref b2)]))
  refine own_go (fun _ k => XS.iload X7.here hx rfl (hb hby at_61) rfl k) ?_
  show own_Fin _ _ _ _ _ _ _ (T7.setTop (mkF m 63 #[.val (.int p0), .val (.long q1), .second, .val (.int p2), .val (.int p3), .val (.int z1), .val (.ref b2), .unset, .unset, .unset, .unset] [(.int z1), (.int (2 : Int32)), (.long q1), (.int (f7 2)), (.int (3 : Int32)), (.ref b2)]))
  obtain ⟨_, _, ⟨T8, L8, k8, n8⟩, -, X8, ⟨Lc8, hQ8, l8, y8, z8⟩, st8⟩ := Jvm.LawKit.callS X7 hx (y := (⟨"com/example/reachability/reachability/CandidateListFirstAtLeastPinLaw", "next", "(IJII)I"⟩ : MethodName)) hown (mvT hZ (hw _ (List.mem_of_getElem? (i := 2) rfl))) (mvT hZ (hw _ (List.mem_of_getElem? (i := 3) rfl))) (mvT hZ (hw _ (List.mem_of_getElem? (i := 4) rfl))) (mvT hZ (hw _ (List.mem_of_getElem? (i := 5) rfl))) (by decide) (backOf (W := 2) (rm1 l Z a0 hw [] (f7 2) q1 (2 : Int32) z1 h7 n0 Z7) hZ (hw _ (List.mem_of_getElem? (i := 5) rfl)) (hw _ (List.mem_of_getElem? (i := 4) rfl)) (by decide) (by decide)) (g := (mkF m 63 #[.val (.int p0), .val (.long q1), .second, .val (.int p2), .val (.int p3), .val (.int z1), .val (.ref b2), .unset, .unset, .unset, .unset] [(.int z1), (.int (2 : Int32)), (.long q1), (.int (f7 2)), (.int (3 : Int32)), (.ref b2)])) rfl (by rw [hml]; rfl) (argsL := [(.int (f7 2)), (.long q1), (.int (2 : Int32)), (.int z1)]) (rest := [(.int (3 : Int32)), (.ref b2)]) (lenOf own_pd74 rfl) rfl (by show 2 * 0 + _ ≤ _; exact Nat.le_of_eq rfl) (hb hby at_63) (fun _ _ => ⟨rfl, e7, (by decide : 1 + 0 ≤ _), (by decide : 8 + 0 ≤ _)⟩)
  dsimp only [Pt.U, Pt.locs, Pt.cells, Pt.slots] at X8 l8 y8 z8 st8 hQ8
  replace y8 : 1 = k8 := y8.symm
  replace z8 : 8 = n8 := z8.symm
  subst y8 z8
  obtain ⟨rfl, N8q, e8⟩ := hQ8
  have N8 : Fr n0 L8 := by rw [l8]; exact Fr.app N7 N8q
  refine own_go (fun tg k => st8 tg k) ?_
  show own_Fin _ _ _ _ _ _ _ (T8.setTop (mkF m 66 #[.val (.int p0), .val (.long q1), .second, .val (.int p2), .val (.int p3), .val (.int z1), .val (.ref b2), .unset, .unset, .unset, .unset] [(.int (own_f1 (f7 2) q1 (2 : Int32) z1)), (.int (3 : Int32)), (.ref b2)]))
  obtain ⟨T9, h9, X9, e9, W9, A_b2_9, st9⟩ := own_stI X8 hx hZ e8 A_b2_7 (j := (3 : Int32)) ⟨by decide, by decide⟩ (g := (mkF m 66 #[.val (.int p0), .val (.long q1), .second, .val (.int p2), .val (.int p3), .val (.int z1), .val (.ref b2), .unset, .unset, .unset, .unset] [(.int (own_f1 (f7 2) q1 (2 : Int32) z1)), (.int (3 : Int32)), (.ref b2)])) rfl rfl (hb hby at_66)
  have N9 := Fr.snoc X9 N8 ge_b2
  have Z9 : n0 ≤ h9.size := Nat.le_trans Z7 (Keep.of_wr W9).1
  obtain ⟨f9, hf9⟩ : ∃ z, z = (own_set f7 (3 : Int32) (own_f1 (f7 2) q1 (2 : Int32) z1)) := ⟨_, rfl⟩
  rw [← hf9] at A_b2_9
  refine own_go (fun tg k => st9 tg k) ?_
  show own_Fin _ _ _ _ _ _ _ (T9.setTop (mkF m 67 #[.val (.int p0), .val (.long q1), .second, .val (.int p2), .val (.int p3), .val (.int z1), .val (.ref b2), .unset, .unset, .unset, .unset] []))
  refine own_go (fun _ k => XS.aload X9.here hx rfl (hb hby at_67) rfl rfl k) ?_
  show own_Fin _ _ _ _ _ _ _ (T9.setTop (mkF m 69 #[.val (.int p0), .val (.long q1), .second, .val (.int p2), .val (.int p3), .val (.int z1), .val (.ref b2), .unset, .unset, .unset, .unset] [(.ref b2)]))
  refine own_go (fun _ k => XS.iconst X9.here hx rfl (hb hby at_69) k) ?_
  show own_Fin _ _ _ _ _ _ _ (T9.setTop (mkF m 70 #[.val (.int p0), .val (.long q1), .second, .val (.int p2), .val (.int p3), .val (.int z1), .val (.ref b2), .unset, .unset, .unset, .unset] [(.int (4 : Int32)), (.ref b2)]))
  refine own_go (fun _ k => XS.aload X9.here hx rfl (hb hby at_70) rfl rfl k) ?_
  show own_Fin _ _ _ _ _ _ _ (T9.setTop (mkF m 72 #[.val (.int p0), .val (.long q1), .second, .val (.int p2), .val (.int p3), .val (.int z1), .val (.ref b2), .unset, .unset, .unset, .unset] [(.ref b2), (.int (4 : Int32)), (.ref b2)]))
  refine own_go (fun _ k => XS.iconst X9.here hx rfl (hb hby at_72) k) ?_
  show own_Fin _ _ _ _ _ _ _ (T9.setTop (mkF m 73 #[.val (.int p0), .val (.long q1), .second, .val (.int p2), .val (.int p3), .val (.int z1), .val (.ref b2), .unset, .unset, .unset, .unset] [(.int (3 : Int32)), (.ref b2), (.int (4 : Int32)), (.ref b2)]))
  refine own_go (fun tg k => own_iaload X9 hx hZ e9 A_b2_9 (j := (3 : Int32)) ⟨by decide, by decide⟩ (x := (f9 3)) rfl (g := (mkF m 73 #[.val (.int p0), .val (.long q1), .second, .val (.int p2), .val (.int p3), .val (.int z1), .val (.ref b2), .unset, .unset, .unset, .unset] [(.int (3 : Int32)), (.ref b2), (.int (4 : Int32)), (.ref b2)])) rfl rfl (hb hby at_73) tg k) ?_
  show own_Fin _ _ _ _ _ _ _ (T9.setTop (mkF m 74 #[.val (.int p0), .val (.long q1), .second, .val (.int p2), .val (.int p3), .val (.int z1), .val (.ref b2), .unset, .unset, .unset, .unset] [(.int (f9 3)), (.int (4 : Int32)), (.ref b2)]))
  refine own_go (fun _ k => XS.lloadN X9.here hx rfl (hb hby at_74) rfl k) ?_
  show own_Fin _ _ _ _ _ _ _ (T9.setTop (mkF m 75 #[.val (.int p0), .val (.long q1), .second, .val (.int p2), .val (.int p3), .val (.int z1), .val (.ref b2), .unset, .unset, .unset, .unset] [(.long q1), (.int (f9 3)), (.int (4 : Int32)), (.ref b2)]))
  refine own_go (fun _ k => XS.iconst X9.here hx rfl (hb hby at_75) k) ?_
  show own_Fin _ _ _ _ _ _ _ (T9.setTop (mkF m 76 #[.val (.int p0), .val (.long q1), .second, .val (.int p2), .val (.int p3), .val (.int z1), .val (.ref b2), .unset, .unset, .unset, .unset] [(.int (3 : Int32)), (.long q1), (.int (f9 3)), (.int (4 : Int32)), (.ref b2)]))
  refine own_go (fun _ k => XS.iload X9.here hx rfl (hb hby at_76) rfl k) ?_
  show own_Fin _ _ _ _ _ _ _ (T9.setTop (mkF m 78 #[.val (.int p0), .val (.long q1), .second, .val (.int p2), .val (.int p3), .val (.int z1), .val (.ref b2), .unset, .unset, .unset, .unset] [(.int z1), (.int (3 : Int32)), (.long q1), (.int (f9 3)), (.int (4 : Int32)), (.ref b2)]))
  obtain ⟨_, _, ⟨T10, L10, k10, n10⟩, -, X10, ⟨Lc10, hQ10, l10, y10, z10⟩, st10⟩ := Jvm.LawKit.callS X9 hx (y := (⟨"com/example/reachability/reachability/CandidateListFirstAtLeastPinLaw", "next", "(IJII)I"⟩ : MethodName)) hown (mvT hZ (hw _ (List.mem_of_getElem? (i := 2) rfl))) (mvT hZ (hw _ (List.mem_of_getElem? (i := 3) rfl))) (mvT hZ (hw _ (List.mem_of_getElem? (i := 4) rfl))) (mvT hZ (hw _ (List.mem_of_getElem? (i := 5) rfl))) (by decide) (backOf (W := 2) (rm1 l Z a0 hw [] (f9 3) q1 (3 : Int32) z1 h9 n0 Z9) hZ (hw _ (List.mem_of_getElem? (i := 5) rfl)) (hw _ (List.mem_of_getElem? (i := 4) rfl)) (by decide) (by decide)) (g := (mkF m 78 #[.val (.int p0), .val (.long q1), .second, .val (.int p2), .val (.int p3), .val (.int z1), .val (.ref b2), .unset, .unset, .unset, .unset] [(.int z1), (.int (3 : Int32)), (.long q1), (.int (f9 3)), (.int (4 : Int32)), (.ref b2)])) rfl (by rw [hml]; rfl) (argsL := [(.int (f9 3)), (.long q1), (.int (3 : Int32)), (.int z1)]) (rest := [(.int (4 : Int32)), (.ref b2)]) (lenOf own_pd74 rfl) rfl (by show 2 * 0 + _ ≤ _; exact Nat.le_of_eq rfl) (hb hby at_78) (fun _ _ => ⟨rfl, e9, (by decide : 1 + 0 ≤ _), (by decide : 8 + 0 ≤ _)⟩)
  dsimp only [Pt.U, Pt.locs, Pt.cells, Pt.slots] at X10 l10 y10 z10 st10 hQ10
  replace y10 : 1 = k10 := y10.symm
  replace z10 : 8 = n10 := z10.symm
  subst y10 z10
  obtain ⟨rfl, N10q, e10⟩ := hQ10
  have N10 : Fr n0 L10 := by rw [l10]; exact Fr.app N9 N10q
  refine own_go (fun tg k => st10 tg k) ?_
  show own_Fin _ _ _ _ _ _ _ (T10.setTop (mkF m 81 #[.val (.int p0), .val (.long q1), .second, .val (.int p2), .val (.int p3), .val (.int z1), .val (.ref b2), .unset, .unset, .unset, .unset] [(.int (own_f1 (f9 3) q1 (3 : Int32) z1)), (.int (4 : Int32)), (.ref b2)]))
  obtain ⟨T11, h11, X11, e11, W11, A_b2_11, st11⟩ := own_stI X10 hx hZ e10 A_b2_9 (j := (4 : Int32)) ⟨by decide, by decide⟩ (g := (mkF m 81 #[.val (.int p0), .val (.long q1), .second, .val (.int p2), .val (.int p3), .val (.int z1), .val (.ref b2), .unset, .unset, .unset, .unset] [(.int (own_f1 (f9 3) q1 (3 : Int32) z1)), (.int (4 : Int32)), (.ref b2)])) rfl rfl (hb hby at_81)
  have N11 := Fr.snoc X11 N10 ge_b2
  have Z11 : n0 ≤ h11.size := Nat.le_trans Z9 (Keep.of_wr W11).1
  obtain ⟨f11, hf11⟩ : ∃ z, z = (own_set f9 (4 : Int32) (own_f1 (f9 3) q1 (3 : Int32) z1)) := ⟨_, rfl⟩
  rw [← hf11] at A_b2_11
  refine own_go (fun tg k => st11 tg k) ?_
  show own_Fin _ _ _ _ _ _ _ (T11.setTop (mkF m 82 #[.val (.int p0), .val (.long q1), .second, .val (.int p2), .val (.int p3), .val (.int z1), .val (.ref b2), .unset, .unset, .unset, .unset] []))
  refine own_go (fun _ k => XS.aload X11.here hx rfl (hb hby at_82) rfl rfl k) ?_
  show own_Fin _ _ _ _ _ _ _ (T11.setTop (mkF m 84 #[.val (.int p0), .val (.long q1), .second, .val (.int p2), .val (.int p3), .val (.int z1), .val (.ref b2), .unset, .unset, .unset, .unset] [(.ref b2)]))
  refine own_go (fun _ k => XS.iconst X11.here hx rfl (hb hby at_84) k) ?_
  show own_Fin _ _ _ _ _ _ _ (T11.setTop (mkF m 85 #[.val (.int p0), .val (.long q1), .second, .val (.int p2), .val (.int p3), .val (.int z1), .val (.ref b2), .unset, .unset, .unset, .unset] [(.int (5 : Int32)), (.ref b2)]))
  refine own_go (fun _ k => XS.aload X11.here hx rfl (hb hby at_85) rfl rfl k) ?_
  show own_Fin _ _ _ _ _ _ _ (T11.setTop (mkF m 87 #[.val (.int p0), .val (.long q1), .second, .val (.int p2), .val (.int p3), .val (.int z1), .val (.ref b2), .unset, .unset, .unset, .unset] [(.ref b2), (.int (5 : Int32)), (.ref b2)]))
  refine own_go (fun _ k => XS.iconst X11.here hx rfl (hb hby at_87) k) ?_
  show own_Fin _ _ _ _ _ _ _ (T11.setTop (mkF m 88 #[.val (.int p0), .val (.long q1), .second, .val (.int p2), .val (.int p3), .val (.int z1), .val (.ref b2), .unset, .unset, .unset, .unset] [(.int (4 : Int32)), (.ref b2), (.int (5 : Int32)), (.ref b2)]))
  refine own_go (fun tg k => own_iaload X11 hx hZ e11 A_b2_11 (j := (4 : Int32)) ⟨by decide, by decide⟩ (x := (f11 4)) rfl (g := (mkF m 88 #[.val (.int p0), .val (.long q1), .second, .val (.int p2), .val (.int p3), .val (.int z1), .val (.ref b2), .unset, .unset, .unset, .unset] [(.int (4 : Int32)), (.ref b2), (.int (5 : Int32)), (.ref b2)])) rfl rfl (hb hby at_88) tg k) ?_
  show own_Fin _ _ _ _ _ _ _ (T11.setTop (mkF m 89 #[.val (.int p0), .val (.long q1), .second, .val (.int p2), .val (.int p3), .val (.int z1), .val (.ref b2), .unset, .unset, .unset, .unset] [(.int (f11 4)), (.int (5 : Int32)), (.ref b2)]))
  refine own_go (fun _ k => XS.lloadN X11.here hx rfl (hb hby at_89) rfl k) ?_
  show own_Fin _ _ _ _ _ _ _ (T11.setTop (mkF m 90 #[.val (.int p0), .val (.long q1), .second, .val (.int p2), .val (.int p3), .val (.int z1), .val (.ref b2), .unset, .unset, .unset, .unset] [(.long q1), (.int (f11 4)), (.int (5 : Int32)), (.ref b2)]))
  refine own_go (fun _ k => XS.iconst X11.here hx rfl (hb hby at_90) k) ?_
  show own_Fin _ _ _ _ _ _ _ (T11.setTop (mkF m 91 #[.val (.int p0), .val (.long q1), .second, .val (.int p2), .val (.int p3), .val (.int z1), .val (.ref b2), .unset, .unset, .unset, .unset] [(.int (4 : Int32)), (.long q1), (.int (f11 4)), (.int (5 : Int32)), (.ref b2)]))
  refine own_go (fun _ k => XS.iload X11.here hx rfl (hb hby at_91) rfl k) ?_
  show own_Fin _ _ _ _ _ _ _ (T11.setTop (mkF m 93 #[.val (.int p0), .val (.long q1), .second, .val (.int p2), .val (.int p3), .val (.int z1), .val (.ref b2), .unset, .unset, .unset, .unset] [(.int z1), (.int (4 : Int32)), (.long q1), (.int (f11 4)), (.int (5 : Int32)), (.ref b2)]))
  obtain ⟨_, _, ⟨T12, L12, k12, n12⟩, -, X12, ⟨Lc12, hQ12, l12, y12, z12⟩, st12⟩ := Jvm.LawKit.callS X11 hx (y := (⟨"com/example/reachability/reachability/CandidateListFirstAtLeastPinLaw", "next", "(IJII)I"⟩ : MethodName)) hown (mvT hZ (hw _ (List.mem_of_getElem? (i := 2) rfl))) (mvT hZ (hw _ (List.mem_of_getElem? (i := 3) rfl))) (mvT hZ (hw _ (List.mem_of_getElem? (i := 4) rfl))) (mvT hZ (hw _ (List.mem_of_getElem? (i := 5) rfl))) (by decide) (backOf (W := 2) (rm1 l Z a0 hw [] (f11 4) q1 (4 : Int32) z1 h11 n0 Z11) hZ (hw _ (List.mem_of_getElem? (i := 5) rfl)) (hw _ (List.mem_of_getElem? (i := 4) rfl)) (by decide) (by decide)) (g := (mkF m 93 #[.val (.int p0), .val (.long q1), .second, .val (.int p2), .val (.int p3), .val (.int z1), .val (.ref b2), .unset, .unset, .unset, .unset] [(.int z1), (.int (4 : Int32)), (.long q1), (.int (f11 4)), (.int (5 : Int32)), (.ref b2)])) rfl (by rw [hml]; rfl) (argsL := [(.int (f11 4)), (.long q1), (.int (4 : Int32)), (.int z1)]) (rest := [(.int (5 : Int32)), (.ref b2)]) (lenOf own_pd74 rfl) rfl (by show 2 * 0 + _ ≤ _; exact Nat.le_of_eq rfl) (hb hby at_93) (fun _ _ => ⟨rfl, e11, (by decide : 1 + 0 ≤ _), (by decide : 8 + 0 ≤ _)⟩)
  dsimp only [Pt.U, Pt.locs, Pt.cells, Pt.slots] at X12 l12 y12 z12 st12 hQ12
  replace y12 : 1 = k12 := y12.symm
  replace z12 : 8 = n12 := z12.symm
  subst y12 z12
  obtain ⟨rfl, N12q, e12⟩ := hQ12
  have N12 : Fr n0 L12 := by rw [l12]; exact Fr.app N11 N12q
  refine own_go (fun tg k => st12 tg k) ?_
  show own_Fin _ _ _ _ _ _ _ (T12.setTop (mkF m 96 #[.val (.int p0), .val (.long q1), .second, .val (.int p2), .val (.int p3), .val (.int z1), .val (.ref b2), .unset, .unset, .unset, .unset] [(.int (own_f1 (f11 4) q1 (4 : Int32) z1)), (.int (5 : Int32)), (.ref b2)]))
  obtain ⟨T13, h13, X13, e13, W13, A_b2_13, st13⟩ := own_stI X12 hx hZ e12 A_b2_11 (j := (5 : Int32)) ⟨by decide, by decide⟩ (g := (mkF m 96 #[.val (.int p0), .val (.long q1), .second, .val (.int p2), .val (.int p3), .val (.int z1), .val (.ref b2), .unset, .unset, .unset, .unset] [(.int (own_f1 (f11 4) q1 (4 : Int32) z1)), (.int (5 : Int32)), (.ref b2)])) rfl rfl (hb hby at_96)
  have N13 := Fr.snoc X13 N12 ge_b2
  have Z13 : n0 ≤ h13.size := Nat.le_trans Z11 (Keep.of_wr W13).1
  obtain ⟨f13, hf13⟩ : ∃ z, z = (own_set f11 (5 : Int32) (own_f1 (f11 4) q1 (4 : Int32) z1)) := ⟨_, rfl⟩
  rw [← hf13] at A_b2_13
  refine own_go (fun tg k => st13 tg k) ?_
  show own_Fin _ _ _ _ _ _ _ (T13.setTop (mkF m 97 #[.val (.int p0), .val (.long q1), .second, .val (.int p2), .val (.int p3), .val (.int z1), .val (.ref b2), .unset, .unset, .unset, .unset] []))
  refine own_go (fun _ k => XS.aload X13.here hx rfl (hb hby at_97) rfl rfl k) ?_
  show own_Fin _ _ _ _ _ _ _ (T13.setTop (mkF m 99 #[.val (.int p0), .val (.long q1), .second, .val (.int p2), .val (.int p3), .val (.int z1), .val (.ref b2), .unset, .unset, .unset, .unset] [(.ref b2)]))
  refine own_go (fun _ k => XS.bipush X13.here hx rfl (hb hby at_99) k) ?_
  show own_Fin _ _ _ _ _ _ _ (T13.setTop (mkF m 101 #[.val (.int p0), .val (.long q1), .second, .val (.int p2), .val (.int p3), .val (.int z1), .val (.ref b2), .unset, .unset, .unset, .unset] [(.int (6 : Int32)), (.ref b2)]))
  refine own_go (fun _ k => XS.aload X13.here hx rfl (hb hby at_101) rfl rfl k) ?_
  show own_Fin _ _ _ _ _ _ _ (T13.setTop (mkF m 103 #[.val (.int p0), .val (.long q1), .second, .val (.int p2), .val (.int p3), .val (.int z1), .val (.ref b2), .unset, .unset, .unset, .unset] [(.ref b2), (.int (6 : Int32)), (.ref b2)]))
  refine own_go (fun _ k => XS.iconst X13.here hx rfl (hb hby at_103) k) ?_
  show own_Fin _ _ _ _ _ _ _ (T13.setTop (mkF m 104 #[.val (.int p0), .val (.long q1), .second, .val (.int p2), .val (.int p3), .val (.int z1), .val (.ref b2), .unset, .unset, .unset, .unset] [(.int (5 : Int32)), (.ref b2), (.int (6 : Int32)), (.ref b2)]))
  refine own_go (fun tg k => own_iaload X13 hx hZ e13 A_b2_13 (j := (5 : Int32)) ⟨by decide, by decide⟩ (x := (f13 5)) rfl (g := (mkF m 104 #[.val (.int p0), .val (.long q1), .second, .val (.int p2), .val (.int p3), .val (.int z1), .val (.ref b2), .unset, .unset, .unset, .unset] [(.int (5 : Int32)), (.ref b2), (.int (6 : Int32)), (.ref b2)])) rfl rfl (hb hby at_104) tg k) ?_
  show own_Fin _ _ _ _ _ _ _ (T13.setTop (mkF m 105 #[.val (.int p0), .val (.long q1), .second, .val (.int p2), .val (.int p3), .val (.int z1), .val (.ref b2), .unset, .unset, .unset, .unset] [(.int (f13 5)), (.int (6 : Int32)), (.ref b2)]))
  refine own_go (fun _ k => XS.lloadN X13.here hx rfl (hb hby at_105) rfl k) ?_
  show own_Fin _ _ _ _ _ _ _ (T13.setTop (mkF m 106 #[.val (.int p0), .val (.long q1), .second, .val (.int p2), .val (.int p3), .val (.int z1), .val (.ref b2), .unset, .unset, .unset, .unset] [(.long q1), (.int (f13 5)), (.int (6 : Int32)), (.ref b2)]))
  refine own_go (fun _ k => XS.iconst X13.here hx rfl (hb hby at_106) k) ?_
  show own_Fin _ _ _ _ _ _ _ (T13.setTop (mkF m 107 #[.val (.int p0), .val (.long q1), .second, .val (.int p2), .val (.int p3), .val (.int z1), .val (.ref b2), .unset, .unset, .unset, .unset] [(.int (5 : Int32)), (.long q1), (.int (f13 5)), (.int (6 : Int32)), (.ref b2)]))
  refine own_go (fun _ k => XS.iload X13.here hx rfl (hb hby at_107) rfl k) ?_
  show own_Fin _ _ _ _ _ _ _ (T13.setTop (mkF m 109 #[.val (.int p0), .val (.long q1), .second, .val (.int p2), .val (.int p3), .val (.int z1), .val (.ref b2), .unset, .unset, .unset, .unset] [(.int z1), (.int (5 : Int32)), (.long q1), (.int (f13 5)), (.int (6 : Int32)), (.ref b2)]))
  obtain ⟨_, _, ⟨T14, L14, k14, n14⟩, -, X14, ⟨Lc14, hQ14, l14, y14, z14⟩, st14⟩ := Jvm.LawKit.callS X13 hx (y := (⟨"com/example/reachability/reachability/CandidateListFirstAtLeastPinLaw", "next", "(IJII)I"⟩ : MethodName)) hown (mvT hZ (hw _ (List.mem_of_getElem? (i := 2) rfl))) (mvT hZ (hw _ (List.mem_of_getElem? (i := 3) rfl))) (mvT hZ (hw _ (List.mem_of_getElem? (i := 4) rfl))) (mvT hZ (hw _ (List.mem_of_getElem? (i := 5) rfl))) (by decide) (backOf (W := 2) (rm1 l Z a0 hw [] (f13 5) q1 (5 : Int32) z1 h13 n0 Z13) hZ (hw _ (List.mem_of_getElem? (i := 5) rfl)) (hw _ (List.mem_of_getElem? (i := 4) rfl)) (by decide) (by decide)) (g := (mkF m 109 #[.val (.int p0), .val (.long q1), .second, .val (.int p2), .val (.int p3), .val (.int z1), .val (.ref b2), .unset, .unset, .unset, .unset] [(.int z1), (.int (5 : Int32)), (.long q1), (.int (f13 5)), (.int (6 : Int32)), (.ref b2)])) rfl (by rw [hml]; rfl) (argsL := [(.int (f13 5)), (.long q1), (.int (5 : Int32)), (.int z1)]) (rest := [(.int (6 : Int32)), (.ref b2)]) (lenOf own_pd74 rfl) rfl (by show 2 * 0 + _ ≤ _; exact Nat.le_of_eq rfl) (hb hby at_109) (fun _ _ => ⟨rfl, e13, (by decide : 1 + 0 ≤ _), (by decide : 8 + 0 ≤ _)⟩)
  dsimp only [Pt.U, Pt.locs, Pt.cells, Pt.slots] at X14 l14 y14 z14 st14 hQ14
  replace y14 : 1 = k14 := y14.symm
  replace z14 : 8 = n14 := z14.symm
  subst y14 z14
  obtain ⟨rfl, N14q, e14⟩ := hQ14
  have N14 : Fr n0 L14 := by rw [l14]; exact Fr.app N13 N14q
  refine own_go (fun tg k => st14 tg k) ?_
  show own_Fin _ _ _ _ _ _ _ (T14.setTop (mkF m 112 #[.val (.int p0), .val (.long q1), .second, .val (.int p2), .val (.int p3), .val (.int z1), .val (.ref b2), .unset, .unset, .unset, .unset] [(.int (own_f1 (f13 5) q1 (5 : Int32) z1)), (.int (6 : Int32)), (.ref b2)]))
  obtain ⟨T15, h15, X15, e15, W15, A_b2_15, st15⟩ := own_stI X14 hx hZ e14 A_b2_13 (j := (6 : Int32)) ⟨by decide, by decide⟩ (g := (mkF m 112 #[.val (.int p0), .val (.long q1), .second, .val (.int p2), .val (.int p3), .val (.int z1), .val (.ref b2), .unset, .unset, .unset, .unset] [(.int (own_f1 (f13 5) q1 (5 : Int32) z1)), (.int (6 : Int32)), (.ref b2)])) rfl rfl (hb hby at_112)
  have N15 := Fr.snoc X15 N14 ge_b2
  have Z15 : n0 ≤ h15.size := Nat.le_trans Z13 (Keep.of_wr W15).1
  obtain ⟨f15, hf15⟩ : ∃ z, z = (own_set f13 (6 : Int32) (own_f1 (f13 5) q1 (5 : Int32) z1)) := ⟨_, rfl⟩
  rw [← hf15] at A_b2_15
  refine own_go (fun tg k => st15 tg k) ?_
  show own_Fin _ _ _ _ _ _ _ (T15.setTop (mkF m 113 #[.val (.int p0), .val (.long q1), .second, .val (.int p2), .val (.int p3), .val (.int z1), .val (.ref b2), .unset, .unset, .unset, .unset] []))
  refine own_go (fun _ k => XS.aload X15.here hx rfl (hb hby at_113) rfl rfl k) ?_
  show own_Fin _ _ _ _ _ _ _ (T15.setTop (mkF m 115 #[.val (.int p0), .val (.long q1), .second, .val (.int p2), .val (.int p3), .val (.int z1), .val (.ref b2), .unset, .unset, .unset, .unset] [(.ref b2)]))
  refine own_go (fun _ k => XS.bipush X15.here hx rfl (hb hby at_115) k) ?_
  show own_Fin _ _ _ _ _ _ _ (T15.setTop (mkF m 117 #[.val (.int p0), .val (.long q1), .second, .val (.int p2), .val (.int p3), .val (.int z1), .val (.ref b2), .unset, .unset, .unset, .unset] [(.int (7 : Int32)), (.ref b2)]))
  refine own_go (fun _ k => XS.aload X15.here hx rfl (hb hby at_117) rfl rfl k) ?_
  show own_Fin _ _ _ _ _ _ _ (T15.setTop (mkF m 119 #[.val (.int p0), .val (.long q1), .second, .val (.int p2), .val (.int p3), .val (.int z1), .val (.ref b2), .unset, .unset, .unset, .unset] [(.ref b2), (.int (7 : Int32)), (.ref b2)]))
  refine own_go (fun _ k => XS.bipush X15.here hx rfl (hb hby at_119) k) ?_
  show own_Fin _ _ _ _ _ _ _ (T15.setTop (mkF m 121 #[.val (.int p0), .val (.long q1), .second, .val (.int p2), .val (.int p3), .val (.int z1), .val (.ref b2), .unset, .unset, .unset, .unset] [(.int (6 : Int32)), (.ref b2), (.int (7 : Int32)), (.ref b2)]))
  refine own_go (fun tg k => own_iaload X15 hx hZ e15 A_b2_15 (j := (6 : Int32)) ⟨by decide, by decide⟩ (x := (f15 6)) rfl (g := (mkF m 121 #[.val (.int p0), .val (.long q1), .second, .val (.int p2), .val (.int p3), .val (.int z1), .val (.ref b2), .unset, .unset, .unset, .unset] [(.int (6 : Int32)), (.ref b2), (.int (7 : Int32)), (.ref b2)])) rfl rfl (hb hby at_121) tg k) ?_
  show own_Fin _ _ _ _ _ _ _ (T15.setTop (mkF m 122 #[.val (.int p0), .val (.long q1), .second, .val (.int p2), .val (.int p3), .val (.int z1), .val (.ref b2), .unset, .unset, .unset, .unset] [(.int (f15 6)), (.int (7 : Int32)), (.ref b2)]))
  refine own_go (fun _ k => XS.lloadN X15.here hx rfl (hb hby at_122) rfl k) ?_
  show own_Fin _ _ _ _ _ _ _ (T15.setTop (mkF m 123 #[.val (.int p0), .val (.long q1), .second, .val (.int p2), .val (.int p3), .val (.int z1), .val (.ref b2), .unset, .unset, .unset, .unset] [(.long q1), (.int (f15 6)), (.int (7 : Int32)), (.ref b2)]))
  refine own_go (fun _ k => XS.bipush X15.here hx rfl (hb hby at_123) k) ?_
  show own_Fin _ _ _ _ _ _ _ (T15.setTop (mkF m 125 #[.val (.int p0), .val (.long q1), .second, .val (.int p2), .val (.int p3), .val (.int z1), .val (.ref b2), .unset, .unset, .unset, .unset] [(.int (6 : Int32)), (.long q1), (.int (f15 6)), (.int (7 : Int32)), (.ref b2)]))
  refine own_go (fun _ k => XS.iload X15.here hx rfl (hb hby at_125) rfl k) ?_
  show own_Fin _ _ _ _ _ _ _ (T15.setTop (mkF m 127 #[.val (.int p0), .val (.long q1), .second, .val (.int p2), .val (.int p3), .val (.int z1), .val (.ref b2), .unset, .unset, .unset, .unset] [(.int z1), (.int (6 : Int32)), (.long q1), (.int (f15 6)), (.int (7 : Int32)), (.ref b2)]))
  obtain ⟨_, _, ⟨T16, L16, k16, n16⟩, -, X16, ⟨Lc16, hQ16, l16, y16, z16⟩, st16⟩ := Jvm.LawKit.callS X15 hx (y := (⟨"com/example/reachability/reachability/CandidateListFirstAtLeastPinLaw", "next", "(IJII)I"⟩ : MethodName)) hown (mvT hZ (hw _ (List.mem_of_getElem? (i := 2) rfl))) (mvT hZ (hw _ (List.mem_of_getElem? (i := 3) rfl))) (mvT hZ (hw _ (List.mem_of_getElem? (i := 4) rfl))) (mvT hZ (hw _ (List.mem_of_getElem? (i := 5) rfl))) (by decide) (backOf (W := 2) (rm1 l Z a0 hw [] (f15 6) q1 (6 : Int32) z1 h15 n0 Z15) hZ (hw _ (List.mem_of_getElem? (i := 5) rfl)) (hw _ (List.mem_of_getElem? (i := 4) rfl)) (by decide) (by decide)) (g := (mkF m 127 #[.val (.int p0), .val (.long q1), .second, .val (.int p2), .val (.int p3), .val (.int z1), .val (.ref b2), .unset, .unset, .unset, .unset] [(.int z1), (.int (6 : Int32)), (.long q1), (.int (f15 6)), (.int (7 : Int32)), (.ref b2)])) rfl (by rw [hml]; rfl) (argsL := [(.int (f15 6)), (.long q1), (.int (6 : Int32)), (.int z1)]) (rest := [(.int (7 : Int32)), (.ref b2)]) (lenOf own_pd74 rfl) rfl (by show 2 * 0 + _ ≤ _; exact Nat.le_of_eq rfl) (hb hby at_127) (fun _ _ => ⟨rfl, e15, (by decide : 1 + 0 ≤ _), (by decide : 8 + 0 ≤ _)⟩)
  dsimp only [Pt.U, Pt.locs, Pt.cells, Pt.slots] at X16 l16 y16 z16 st16 hQ16
  replace y16 : 1 = k16 := y16.symm
  replace z16 : 8 = n16 := z16.symm
  subst y16 z16
  obtain ⟨rfl, N16q, e16⟩ := hQ16
  have N16 : Fr n0 L16 := by rw [l16]; exact Fr.app N15 N16q
  refine own_go (fun tg k => st16 tg k) ?_
  show own_Fin _ _ _ _ _ _ _ (T16.setTop (mkF m 130 #[.val (.int p0), .val (.long q1), .second, .val (.int p2), .val (.int p3), .val (.int z1), .val (.ref b2), .unset, .unset, .unset, .unset] [(.int (own_f1 (f15 6) q1 (6 : Int32) z1)), (.int (7 : Int32)), (.ref b2)]))
  obtain ⟨T17, h17, X17, e17, W17, A_b2_17, st17⟩ := own_stI X16 hx hZ e16 A_b2_15 (j := (7 : Int32)) ⟨by decide, by decide⟩ (g := (mkF m 130 #[.val (.int p0), .val (.long q1), .second, .val (.int p2), .val (.int p3), .val (.int z1), .val (.ref b2), .unset, .unset, .unset, .unset] [(.int (own_f1 (f15 6) q1 (6 : Int32) z1)), (.int (7 : Int32)), (.ref b2)])) rfl rfl (hb hby at_130)
  have N17 := Fr.snoc X17 N16 ge_b2
  have Z17 : n0 ≤ h17.size := Nat.le_trans Z15 (Keep.of_wr W17).1
  obtain ⟨f17, hf17⟩ : ∃ z, z = (own_set f15 (7 : Int32) (own_f1 (f15 6) q1 (6 : Int32) z1)) := ⟨_, rfl⟩
  rw [← hf17] at A_b2_17
  refine own_go (fun tg k => st17 tg k) ?_
  show own_Fin _ _ _ _ _ _ _ (T17.setTop (mkF m 131 #[.val (.int p0), .val (.long q1), .second, .val (.int p2), .val (.int p3), .val (.int z1), .val (.ref b2), .unset, .unset, .unset, .unset] []))
  refine own_go (fun _ k => XS.iloadN X17.here hx rfl (hb hby at_131) rfl k) ?_
  show own_Fin _ _ _ _ _ _ _ (T17.setTop (mkF m 132 #[.val (.int p0), .val (.long q1), .second, .val (.int p2), .val (.int p3), .val (.int z1), .val (.ref b2), .unset, .unset, .unset, .unset] [(.int p2)]))
  refine own_go (fun _ k => XS.sipush X17.here hx rfl (hb hby at_132) k) ?_
  show own_Fin _ _ _ _ _ _ _ (T17.setTop (mkF m 135 #[.val (.int p0), .val (.long q1), .second, .val (.int p2), .val (.int p3), .val (.int z1), .val (.ref b2), .unset, .unset, .unset, .unset] [(.int (255 : Int32)), (.int p2)]))
  refine own_go (fun _ k => XS.iand X17.here hx rfl (hb hby at_135) rfl k) ?_
  show own_Fin _ _ _ _ _ _ _ (T17.setTop (mkF m 136 #[.val (.int p0), .val (.long q1), .second, .val (.int p2), .val (.int p3), .val (.int z1), .val (.ref b2), .unset, .unset, .unset, .unset] [(.int (p2 &&& (255 : Int32)))]))
  refine own_go (fun _ k => XS.bipush X17.here hx rfl (hb hby at_136) k) ?_
  show own_Fin _ _ _ _ _ _ _ (T17.setTop (mkF m 138 #[.val (.int p0), .val (.long q1), .second, .val (.int p2), .val (.int p3), .val (.int z1), .val (.ref b2), .unset, .unset, .unset, .unset] [(.int (9 : Int32)), (.int (p2 &&& (255 : Int32)))]))
  refine own_go (fun _ k => own_irem X17.here hx rfl (hb hby at_138) rfl (by decide) k) ?_
  show own_Fin _ _ _ _ _ _ _ (T17.setTop (mkF m 139 #[.val (.int p0), .val (.long q1), .second, .val (.int p2), .val (.int p3), .val (.int z1), .val (.ref b2), .unset, .unset, .unset, .unset] [(.int ((p2 &&& (255 : Int32)) % (9 : Int32)))]))
  refine own_go (fun _ k => XS.istore X17.here hx rfl (hb hby at_139) rfl (l' := #[.val (.int p0), .val (.long q1), .second, .val (.int p2), .val (.int p3), .val (.int z1), .val (.ref b2), .val (.int ((p2 &&& (255 : Int32)) % (9 : Int32))), .unset, .unset, .unset]) rfl k) ?_
  show own_Fin _ _ _ _ _ _ _ (T17.setTop (mkF m 141 #[.val (.int p0), .val (.long q1), .second, .val (.int p2), .val (.int p3), .val (.int z1), .val (.ref b2), .val (.int ((p2 &&& (255 : Int32)) % (9 : Int32))), .unset, .unset, .unset] []))
  refine own_go (fun _ k => XS.iload X17.here hx rfl (hb hby at_141) rfl k) ?_
  show own_Fin _ _ _ _ _ _ _ (T17.setTop (mkF m 143 #[.val (.int p0), .val (.long q1), .second, .val (.int p2), .val (.int p3), .val (.int z1), .val (.ref b2), .val (.int ((p2 &&& (255 : Int32)) % (9 : Int32))), .unset, .unset, .unset] [(.int ((p2 &&& (255 : Int32)) % (9 : Int32)))]))
  refine own_go (fun _ k => XS.iloadN X17.here hx rfl (hb hby at_143) rfl k) ?_
  show own_Fin _ _ _ _ _ _ _ (T17.setTop (mkF m 144 #[.val (.int p0), .val (.long q1), .second, .val (.int p2), .val (.int p3), .val (.int z1), .val (.ref b2), .val (.int ((p2 &&& (255 : Int32)) % (9 : Int32))), .unset, .unset, .unset] [(.int p2), (.int ((p2 &&& (255 : Int32)) % (9 : Int32)))]))
  refine own_go (fun _ k => XS.bipush X17.here hx rfl (hb hby at_144) k) ?_
  show own_Fin _ _ _ _ _ _ _ (T17.setTop (mkF m 146 #[.val (.int p0), .val (.long q1), .second, .val (.int p2), .val (.int p3), .val (.int z1), .val (.ref b2), .val (.int ((p2 &&& (255 : Int32)) % (9 : Int32))), .unset, .unset, .unset] [(.int (8 : Int32)), (.int p2), (.int ((p2 &&& (255 : Int32)) % (9 : Int32)))]))
  refine own_go (fun _ k => XS.iushr X17.here hx rfl (hb hby at_146) rfl k) ?_
  show own_Fin _ _ _ _ _ _ _ (T17.setTop (mkF m 147 #[.val (.int p0), .val (.long q1), .second, .val (.int p2), .val (.int p3), .val (.int z1), .val (.ref b2), .val (.int ((p2 &&& (255 : Int32)) % (9 : Int32))), .unset, .unset, .unset] [(.int (own_iushr p2 (8 : Int32))), (.int ((p2 &&& (255 : Int32)) % (9 : Int32)))]))
  refine own_go (fun _ k => XS.sipush X17.here hx rfl (hb hby at_147) k) ?_
  show own_Fin _ _ _ _ _ _ _ (T17.setTop (mkF m 150 #[.val (.int p0), .val (.long q1), .second, .val (.int p2), .val (.int p3), .val (.int z1), .val (.ref b2), .val (.int ((p2 &&& (255 : Int32)) % (9 : Int32))), .unset, .unset, .unset] [(.int (255 : Int32)), (.int (own_iushr p2 (8 : Int32))), (.int ((p2 &&& (255 : Int32)) % (9 : Int32)))]))
  refine own_go (fun _ k => XS.iand X17.here hx rfl (hb hby at_150) rfl k) ?_
  show own_Fin _ _ _ _ _ _ _ (T17.setTop (mkF m 151 #[.val (.int p0), .val (.long q1), .second, .val (.int p2), .val (.int p3), .val (.int z1), .val (.ref b2), .val (.int ((p2 &&& (255 : Int32)) % (9 : Int32))), .unset, .unset, .unset] [(.int ((own_iushr p2 (8 : Int32)) &&& (255 : Int32))), (.int ((p2 &&& (255 : Int32)) % (9 : Int32)))]))
  refine own_go (fun _ k => XS.bipush X17.here hx rfl (hb hby at_151) k) ?_
  show own_Fin _ _ _ _ _ _ _ (T17.setTop (mkF m 153 #[.val (.int p0), .val (.long q1), .second, .val (.int p2), .val (.int p3), .val (.int z1), .val (.ref b2), .val (.int ((p2 &&& (255 : Int32)) % (9 : Int32))), .unset, .unset, .unset] [(.int (9 : Int32)), (.int ((own_iushr p2 (8 : Int32)) &&& (255 : Int32))), (.int ((p2 &&& (255 : Int32)) % (9 : Int32)))]))
  refine own_go (fun _ k => XS.iload X17.here hx rfl (hb hby at_153) rfl k) ?_
  show own_Fin _ _ _ _ _ _ _ (T17.setTop (mkF m 155 #[.val (.int p0), .val (.long q1), .second, .val (.int p2), .val (.int p3), .val (.int z1), .val (.ref b2), .val (.int ((p2 &&& (255 : Int32)) % (9 : Int32))), .unset, .unset, .unset] [(.int ((p2 &&& (255 : Int32)) % (9 : Int32))), (.int (9 : Int32)), (.int ((own_iushr p2 (8 : Int32)) &&& (255 : Int32))), (.int ((p2 &&& (255 : Int32)) % (9 : Int32)))]))
  refine own_go (fun _ k => XS.isub X17.here hx rfl (hb hby at_155) rfl k) ?_
  show own_Fin _ _ _ _ _ _ _ (T17.setTop (mkF m 156 #[.val (.int p0), .val (.long q1), .second, .val (.int p2), .val (.int p3), .val (.int z1), .val (.ref b2), .val (.int ((p2 &&& (255 : Int32)) % (9 : Int32))), .unset, .unset, .unset] [(.int ((9 : Int32) - ((p2 &&& (255 : Int32)) % (9 : Int32)))), (.int ((own_iushr p2 (8 : Int32)) &&& (255 : Int32))), (.int ((p2 &&& (255 : Int32)) % (9 : Int32)))]))
  refine own_go (fun _ k => own_irem X17.here hx rfl (hb hby at_156) rfl (own_nz _) k) ?_
  show own_Fin _ _ _ _ _ _ _ (T17.setTop (mkF m 157 #[.val (.int p0), .val (.long q1), .second, .val (.int p2), .val (.int p3), .val (.int z1), .val (.ref b2), .val (.int ((p2 &&& (255 : Int32)) % (9 : Int32))), .unset, .unset, .unset] [(.int (((own_iushr p2 (8 : Int32)) &&& (255 : Int32)) % ((9 : Int32) - ((p2 &&& (255 : Int32)) % (9 : Int32))))), (.int ((p2 &&& (255 : Int32)) % (9 : Int32)))]))
  refine own_go (fun _ k => XS.iadd X17.here hx rfl (hb hby at_157) rfl k) ?_
  show own_Fin _ _ _ _ _ _ _ (T17.setTop (mkF m 158 #[.val (.int p0), .val (.long q1), .second, .val (.int p2), .val (.int p3), .val (.int z1), .val (.ref b2), .val (.int ((p2 &&& (255 : Int32)) % (9 : Int32))), .unset, .unset, .unset] [(.int (((p2 &&& (255 : Int32)) % (9 : Int32)) + (((own_iushr p2 (8 : Int32)) &&& (255 : Int32)) % ((9 : Int32) - ((p2 &&& (255 : Int32)) % (9 : Int32))))))]))
  refine own_go (fun _ k => XS.istore X17.here hx rfl (hb hby at_158) rfl (l' := #[.val (.int p0), .val (.long q1), .second, .val (.int p2), .val (.int p3), .val (.int z1), .val (.ref b2), .val (.int ((p2 &&& (255 : Int32)) % (9 : Int32))), .val (.int (((p2 &&& (255 : Int32)) % (9 : Int32)) + (((own_iushr p2 (8 : Int32)) &&& (255 : Int32)) % ((9 : Int32) - ((p2 &&& (255 : Int32)) % (9 : Int32)))))), .unset, .unset]) rfl k) ?_
  show own_Fin _ _ _ _ _ _ _ (T17.setTop (mkF m 160 #[.val (.int p0), .val (.long q1), .second, .val (.int p2), .val (.int p3), .val (.int z1), .val (.ref b2), .val (.int ((p2 &&& (255 : Int32)) % (9 : Int32))), .val (.int (((p2 &&& (255 : Int32)) % (9 : Int32)) + (((own_iushr p2 (8 : Int32)) &&& (255 : Int32)) % ((9 : Int32) - ((p2 &&& (255 : Int32)) % (9 : Int32)))))), .unset, .unset] []))
  generalize hz18 : (((p2 &&& (255 : Int32)) % (9 : Int32)) + (((own_iushr p2 (8 : Int32)) &&& (255 : Int32)) % ((9 : Int32) - ((p2 &&& (255 : Int32)) % (9 : Int32))))) = z18
  show own_Fin _ _ _ _ _ _ _ (T17.setTop (mkF m 160 #[.val (.int p0), .val (.long q1), .second, .val (.int p2), .val (.int p3), .val (.int z1), .val (.ref b2), .val (.int ((p2 &&& (255 : Int32)) % (9 : Int32))), .val (.int z18), .unset, .unset] []))
  refine own_go (fun _ k => XS.iload X17.here hx rfl (hb hby at_160) rfl k) ?_
  show own_Fin _ _ _ _ _ _ _ (T17.setTop (mkF m 162 #[.val (.int p0), .val (.long q1), .second, .val (.int p2), .val (.int p3), .val (.int z1), .val (.ref b2), .val (.int ((p2 &&& (255 : Int32)) % (9 : Int32))), .val (.int z18), .unset, .unset] [(.int ((p2 &&& (255 : Int32)) % (9 : Int32)))]))
  refine own_go (fun _ k => XS.aload X17.here hx rfl (hb hby at_162) rfl rfl k) ?_
  show own_Fin _ _ _ _ _ _ _ (T17.setTop (mkF m 164 #[.val (.int p0), .val (.long q1), .second, .val (.int p2), .val (.int p3), .val (.int z1), .val (.ref b2), .val (.int ((p2 &&& (255 : Int32)) % (9 : Int32))), .val (.int z18), .unset, .unset] [(.ref b2), (.int ((p2 &&& (255 : Int32)) % (9 : Int32)))]))
  refine own_go (fun _ k => XS.iconst X17.here hx rfl (hb hby at_164) k) ?_
  show own_Fin _ _ _ _ _ _ _ (T17.setTop (mkF m 165 #[.val (.int p0), .val (.long q1), .second, .val (.int p2), .val (.int p3), .val (.int z1), .val (.ref b2), .val (.int ((p2 &&& (255 : Int32)) % (9 : Int32))), .val (.int z18), .unset, .unset] [(.int (0 : Int32)), (.ref b2), (.int ((p2 &&& (255 : Int32)) % (9 : Int32)))]))
  refine own_go (fun _ k => XS.iload X17.here hx rfl (hb hby at_165) rfl k) ?_
  show own_Fin _ _ _ _ _ _ _ (T17.setTop (mkF m 167 #[.val (.int p0), .val (.long q1), .second, .val (.int p2), .val (.int p3), .val (.int z1), .val (.ref b2), .val (.int ((p2 &&& (255 : Int32)) % (9 : Int32))), .val (.int z18), .unset, .unset] [(.int ((p2 &&& (255 : Int32)) % (9 : Int32))), (.int (0 : Int32)), (.ref b2), (.int ((p2 &&& (255 : Int32)) % (9 : Int32)))]))
  refine own_go (fun _ k => XS.iload X17.here hx rfl (hb hby at_167) rfl k) ?_
  show own_Fin _ _ _ _ _ _ _ (T17.setTop (mkF m 169 #[.val (.int p0), .val (.long q1), .second, .val (.int p2), .val (.int p3), .val (.int z1), .val (.ref b2), .val (.int ((p2 &&& (255 : Int32)) % (9 : Int32))), .val (.int z18), .unset, .unset] [(.int z18), (.int ((p2 &&& (255 : Int32)) % (9 : Int32))), (.int (0 : Int32)), (.ref b2), (.int ((p2 &&& (255 : Int32)) % (9 : Int32)))]))
  refine own_go (fun _ k => XS.iload X17.here hx rfl (hb hby at_169) rfl k) ?_
  show own_Fin _ _ _ _ _ _ _ (T17.setTop (mkF m 171 #[.val (.int p0), .val (.long q1), .second, .val (.int p2), .val (.int p3), .val (.int z1), .val (.ref b2), .val (.int ((p2 &&& (255 : Int32)) % (9 : Int32))), .val (.int z18), .unset, .unset] [(.int p3), (.int z18), (.int ((p2 &&& (255 : Int32)) % (9 : Int32))), (.int (0 : Int32)), (.ref b2), (.int ((p2 &&& (255 : Int32)) % (9 : Int32)))]))
  obtain ⟨_, _, ⟨T19, L19, k19, n19⟩, -, X19, ⟨Lc19, hQ19, l19, y19, z19⟩, st19⟩ := Jvm.LawKit.callS X17 hx (y := (⟨"com/example/reachability/reachability/CandidateListFirstAtLeastPinLaw", "lt", "([IIIII)I"⟩ : MethodName)) hown (mvT hZ (hw _ (List.mem_of_getElem? (i := 12) rfl))) (mvT hZ (hw _ (List.mem_of_getElem? (i := 13) rfl))) (mvT hZ (hw _ (List.mem_of_getElem? (i := 4) rfl))) (mvT hZ (hw _ (List.mem_of_getElem? (i := 14) rfl))) (by decide) (backOf (W := 1) (rm3 l Z a0 hw [] b2 (0 : Int32) ((p2 &&& (255 : Int32)) % (9 : Int32)) z18 p3 f17 h17 n0 Z17 A_b2_17 (by rw [← hz18]; exact own_rg _)) hZ (hw _ (List.mem_of_getElem? (i := 14) rfl)) (hw _ (List.mem_of_getElem? (i := 4) rfl)) (by decide) (by decide)) (g := (mkF m 171 #[.val (.int p0), .val (.long q1), .second, .val (.int p2), .val (.int p3), .val (.int z1), .val (.ref b2), .val (.int ((p2 &&& (255 : Int32)) % (9 : Int32))), .val (.int z18), .unset, .unset] [(.int p3), (.int z18), (.int ((p2 &&& (255 : Int32)) % (9 : Int32))), (.int (0 : Int32)), (.ref b2), (.int ((p2 &&& (255 : Int32)) % (9 : Int32)))])) rfl (by rw [hml]; rfl) (argsL := [(.ref b2), (.int (0 : Int32)), (.int ((p2 &&& (255 : Int32)) % (9 : Int32))), (.int z18), (.int p3)]) (rest := [(.int ((p2 &&& (255 : Int32)) % (9 : Int32)))]) (lenOf own_pd75 rfl) rfl (by show 2 * 0 + _ ≤ _; exact Nat.le_of_eq rfl) (hb hby at_171) (fun _ _ => ⟨rfl, e17, (by decide : 1 + 0 ≤ _), (by decide : 8 + 0 ≤ _)⟩)
  dsimp only [Pt.U, Pt.locs, Pt.cells, Pt.slots] at X19 l19 y19 z19 st19 hQ19
  replace y19 : 1 = k19 := y19.symm
  replace z19 : 8 = n19 := z19.symm
  subst y19 z19
  obtain ⟨rfl, N19q, e19⟩ := hQ19
  have N19 : Fr n0 L19 := by rw [l19]; exact Fr.app N17 N19q
  refine own_go (fun tg k => st19 tg k) ?_
  show own_Fin _ _ _ _ _ _ _ (T19.setTop (mkF m 174 #[.val (.int p0), .val (.long q1), .second, .val (.int p2), .val (.int p3), .val (.int z1), .val (.ref b2), .val (.int ((p2 &&& (255 : Int32)) % (9 : Int32))), .val (.int z18), .unset, .unset] [(.int (own_f3 (0 : Int32) ((p2 &&& (255 : Int32)) % (9 : Int32)) z18 p3 f17)), (.int ((p2 &&& (255 : Int32)) % (9 : Int32)))]))
  refine own_go (fun _ k => XS.iadd X19.here hx rfl (hb hby at_174) rfl k) ?_
  show own_Fin _ _ _ _ _ _ _ (T19.setTop (mkF m 175 #[.val (.int p0), .val (.long q1), .second, .val (.int p2), .val (.int p3), .val (.int z1), .val (.ref b2), .val (.int ((p2 &&& (255 : Int32)) % (9 : Int32))), .val (.int z18), .unset, .unset] [(.int (((p2 &&& (255 : Int32)) % (9 : Int32)) + (own_f3 (0 : Int32) ((p2 &&& (255 : Int32)) % (9 : Int32)) z18 p3 f17)))]))
  refine own_go (fun _ k => XS.aload X19.here hx rfl (hb hby at_175) rfl rfl k) ?_
  show own_Fin _ _ _ _ _ _ _ (T19.setTop (mkF m 177 #[.val (.int p0), .val (.long q1), .second, .val (.int p2), .val (.int p3), .val (.int z1), .val (.ref b2), .val (.int ((p2 &&& (255 : Int32)) % (9 : Int32))), .val (.int z18), .unset, .unset] [(.ref b2), (.int (((p2 &&& (255 : Int32)) % (9 : Int32)) + (own_f3 (0 : Int32) ((p2 &&& (255 : Int32)) % (9 : Int32)) z18 p3 f17)))]))
  refine own_go (fun _ k => XS.iconst X19.here hx rfl (hb hby at_177) k) ?_
  show own_Fin _ _ _ _ _ _ _ (T19.setTop (mkF m 178 #[.val (.int p0), .val (.long q1), .second, .val (.int p2), .val (.int p3), .val (.int z1), .val (.ref b2), .val (.int ((p2 &&& (255 : Int32)) % (9 : Int32))), .val (.int z18), .unset, .unset] [(.int (1 : Int32)), (.ref b2), (.int (((p2 &&& (255 : Int32)) % (9 : Int32)) + (own_f3 (0 : Int32) ((p2 &&& (255 : Int32)) % (9 : Int32)) z18 p3 f17)))]))
  refine own_go (fun _ k => XS.iload X19.here hx rfl (hb hby at_178) rfl k) ?_
  show own_Fin _ _ _ _ _ _ _ (T19.setTop (mkF m 180 #[.val (.int p0), .val (.long q1), .second, .val (.int p2), .val (.int p3), .val (.int z1), .val (.ref b2), .val (.int ((p2 &&& (255 : Int32)) % (9 : Int32))), .val (.int z18), .unset, .unset] [(.int ((p2 &&& (255 : Int32)) % (9 : Int32))), (.int (1 : Int32)), (.ref b2), (.int (((p2 &&& (255 : Int32)) % (9 : Int32)) + (own_f3 (0 : Int32) ((p2 &&& (255 : Int32)) % (9 : Int32)) z18 p3 f17)))]))
  refine own_go (fun _ k => XS.iload X19.here hx rfl (hb hby at_180) rfl k) ?_
  show own_Fin _ _ _ _ _ _ _ (T19.setTop (mkF m 182 #[.val (.int p0), .val (.long q1), .second, .val (.int p2), .val (.int p3), .val (.int z1), .val (.ref b2), .val (.int ((p2 &&& (255 : Int32)) % (9 : Int32))), .val (.int z18), .unset, .unset] [(.int z18), (.int ((p2 &&& (255 : Int32)) % (9 : Int32))), (.int (1 : Int32)), (.ref b2), (.int (((p2 &&& (255 : Int32)) % (9 : Int32)) + (own_f3 (0 : Int32) ((p2 &&& (255 : Int32)) % (9 : Int32)) z18 p3 f17)))]))
  refine own_go (fun _ k => XS.iload X19.here hx rfl (hb hby at_182) rfl k) ?_
  show own_Fin _ _ _ _ _ _ _ (T19.setTop (mkF m 184 #[.val (.int p0), .val (.long q1), .second, .val (.int p2), .val (.int p3), .val (.int z1), .val (.ref b2), .val (.int ((p2 &&& (255 : Int32)) % (9 : Int32))), .val (.int z18), .unset, .unset] [(.int p3), (.int z18), (.int ((p2 &&& (255 : Int32)) % (9 : Int32))), (.int (1 : Int32)), (.ref b2), (.int (((p2 &&& (255 : Int32)) % (9 : Int32)) + (own_f3 (0 : Int32) ((p2 &&& (255 : Int32)) % (9 : Int32)) z18 p3 f17)))]))
  obtain ⟨_, _, ⟨T20, L20, k20, n20⟩, -, X20, ⟨Lc20, hQ20, l20, y20, z20⟩, st20⟩ := Jvm.LawKit.callS X19 hx (y := (⟨"com/example/reachability/reachability/CandidateListFirstAtLeastPinLaw", "lt", "([IIIII)I"⟩ : MethodName)) hown (mvT hZ (hw _ (List.mem_of_getElem? (i := 12) rfl))) (mvT hZ (hw _ (List.mem_of_getElem? (i := 13) rfl))) (mvT hZ (hw _ (List.mem_of_getElem? (i := 4) rfl))) (mvT hZ (hw _ (List.mem_of_getElem? (i := 14) rfl))) (by decide) (backOf (W := 1) (rm3 l Z a0 hw [] b2 (1 : Int32) ((p2 &&& (255 : Int32)) % (9 : Int32)) z18 p3 f17 h17 n0 Z17 A_b2_17 (by rw [← hz18]; exact own_rg _)) hZ (hw _ (List.mem_of_getElem? (i := 14) rfl)) (hw _ (List.mem_of_getElem? (i := 4) rfl)) (by decide) (by decide)) (g := (mkF m 184 #[.val (.int p0), .val (.long q1), .second, .val (.int p2), .val (.int p3), .val (.int z1), .val (.ref b2), .val (.int ((p2 &&& (255 : Int32)) % (9 : Int32))), .val (.int z18), .unset, .unset] [(.int p3), (.int z18), (.int ((p2 &&& (255 : Int32)) % (9 : Int32))), (.int (1 : Int32)), (.ref b2), (.int (((p2 &&& (255 : Int32)) % (9 : Int32)) + (own_f3 (0 : Int32) ((p2 &&& (255 : Int32)) % (9 : Int32)) z18 p3 f17)))])) rfl (by rw [hml]; rfl) (argsL := [(.ref b2), (.int (1 : Int32)), (.int ((p2 &&& (255 : Int32)) % (9 : Int32))), (.int z18), (.int p3)]) (rest := [(.int (((p2 &&& (255 : Int32)) % (9 : Int32)) + (own_f3 (0 : Int32) ((p2 &&& (255 : Int32)) % (9 : Int32)) z18 p3 f17)))]) (lenOf own_pd75 rfl) rfl (by show 2 * 0 + _ ≤ _; exact Nat.le_of_eq rfl) (hb hby at_184) (fun _ _ => ⟨rfl, e19, (by decide : 1 + 0 ≤ _), (by decide : 8 + 0 ≤ _)⟩)
  dsimp only [Pt.U, Pt.locs, Pt.cells, Pt.slots] at X20 l20 y20 z20 st20 hQ20
  replace y20 : 1 = k20 := y20.symm
  replace z20 : 8 = n20 := z20.symm
  subst y20 z20
  obtain ⟨rfl, N20q, e20⟩ := hQ20
  have N20 : Fr n0 L20 := by rw [l20]; exact Fr.app N19 N20q
  refine own_go (fun tg k => st20 tg k) ?_
  show own_Fin _ _ _ _ _ _ _ (T20.setTop (mkF m 187 #[.val (.int p0), .val (.long q1), .second, .val (.int p2), .val (.int p3), .val (.int z1), .val (.ref b2), .val (.int ((p2 &&& (255 : Int32)) % (9 : Int32))), .val (.int z18), .unset, .unset] [(.int (own_f3 (1 : Int32) ((p2 &&& (255 : Int32)) % (9 : Int32)) z18 p3 f17)), (.int (((p2 &&& (255 : Int32)) % (9 : Int32)) + (own_f3 (0 : Int32) ((p2 &&& (255 : Int32)) % (9 : Int32)) z18 p3 f17)))]))
  refine own_go (fun _ k => XS.iadd X20.here hx rfl (hb hby at_187) rfl k) ?_
  show own_Fin _ _ _ _ _ _ _ (T20.setTop (mkF m 188 #[.val (.int p0), .val (.long q1), .second, .val (.int p2), .val (.int p3), .val (.int z1), .val (.ref b2), .val (.int ((p2 &&& (255 : Int32)) % (9 : Int32))), .val (.int z18), .unset, .unset] [(.int ((((p2 &&& (255 : Int32)) % (9 : Int32)) + (own_f3 (0 : Int32) ((p2 &&& (255 : Int32)) % (9 : Int32)) z18 p3 f17)) + (own_f3 (1 : Int32) ((p2 &&& (255 : Int32)) % (9 : Int32)) z18 p3 f17)))]))
  generalize hz21 : ((((p2 &&& (255 : Int32)) % (9 : Int32)) + (own_f3 (0 : Int32) ((p2 &&& (255 : Int32)) % (9 : Int32)) z18 p3 f17)) + (own_f3 (1 : Int32) ((p2 &&& (255 : Int32)) % (9 : Int32)) z18 p3 f17)) = z21
  show own_Fin _ _ _ _ _ _ _ (T20.setTop (mkF m 188 #[.val (.int p0), .val (.long q1), .second, .val (.int p2), .val (.int p3), .val (.int z1), .val (.ref b2), .val (.int ((p2 &&& (255 : Int32)) % (9 : Int32))), .val (.int z18), .unset, .unset] [(.int z21)]))
  refine own_go (fun _ k => XS.aload X20.here hx rfl (hb hby at_188) rfl rfl k) ?_
  show own_Fin _ _ _ _ _ _ _ (T20.setTop (mkF m 190 #[.val (.int p0), .val (.long q1), .second, .val (.int p2), .val (.int p3), .val (.int z1), .val (.ref b2), .val (.int ((p2 &&& (255 : Int32)) % (9 : Int32))), .val (.int z18), .unset, .unset] [(.ref b2), (.int z21)]))
  refine own_go (fun _ k => XS.iconst X20.here hx rfl (hb hby at_190) k) ?_
  show own_Fin _ _ _ _ _ _ _ (T20.setTop (mkF m 191 #[.val (.int p0), .val (.long q1), .second, .val (.int p2), .val (.int p3), .val (.int z1), .val (.ref b2), .val (.int ((p2 &&& (255 : Int32)) % (9 : Int32))), .val (.int z18), .unset, .unset] [(.int (2 : Int32)), (.ref b2), (.int z21)]))
  refine own_go (fun _ k => XS.iload X20.here hx rfl (hb hby at_191) rfl k) ?_
  show own_Fin _ _ _ _ _ _ _ (T20.setTop (mkF m 193 #[.val (.int p0), .val (.long q1), .second, .val (.int p2), .val (.int p3), .val (.int z1), .val (.ref b2), .val (.int ((p2 &&& (255 : Int32)) % (9 : Int32))), .val (.int z18), .unset, .unset] [(.int ((p2 &&& (255 : Int32)) % (9 : Int32))), (.int (2 : Int32)), (.ref b2), (.int z21)]))
  refine own_go (fun _ k => XS.iload X20.here hx rfl (hb hby at_193) rfl k) ?_
  show own_Fin _ _ _ _ _ _ _ (T20.setTop (mkF m 195 #[.val (.int p0), .val (.long q1), .second, .val (.int p2), .val (.int p3), .val (.int z1), .val (.ref b2), .val (.int ((p2 &&& (255 : Int32)) % (9 : Int32))), .val (.int z18), .unset, .unset] [(.int z18), (.int ((p2 &&& (255 : Int32)) % (9 : Int32))), (.int (2 : Int32)), (.ref b2), (.int z21)]))
  refine own_go (fun _ k => XS.iload X20.here hx rfl (hb hby at_195) rfl k) ?_
  show own_Fin _ _ _ _ _ _ _ (T20.setTop (mkF m 197 #[.val (.int p0), .val (.long q1), .second, .val (.int p2), .val (.int p3), .val (.int z1), .val (.ref b2), .val (.int ((p2 &&& (255 : Int32)) % (9 : Int32))), .val (.int z18), .unset, .unset] [(.int p3), (.int z18), (.int ((p2 &&& (255 : Int32)) % (9 : Int32))), (.int (2 : Int32)), (.ref b2), (.int z21)]))
  obtain ⟨_, _, ⟨T22, L22, k22, n22⟩, -, X22, ⟨Lc22, hQ22, l22, y22, z22⟩, st22⟩ := Jvm.LawKit.callS X20 hx (y := (⟨"com/example/reachability/reachability/CandidateListFirstAtLeastPinLaw", "lt", "([IIIII)I"⟩ : MethodName)) hown (mvT hZ (hw _ (List.mem_of_getElem? (i := 12) rfl))) (mvT hZ (hw _ (List.mem_of_getElem? (i := 13) rfl))) (mvT hZ (hw _ (List.mem_of_getElem? (i := 4) rfl))) (mvT hZ (hw _ (List.mem_of_getElem? (i := 14) rfl))) (by decide) (backOf (W := 1) (rm3 l Z a0 hw [] b2 (2 : Int32) ((p2 &&& (255 : Int32)) % (9 : Int32)) z18 p3 f17 h17 n0 Z17 A_b2_17 (by rw [← hz18]; exact own_rg _)) hZ (hw _ (List.mem_of_getElem? (i := 14) rfl)) (hw _ (List.mem_of_getElem? (i := 4) rfl)) (by decide) (by decide)) (g := (mkF m 197 #[.val (.int p0), .val (.long q1), .second, .val (.int p2), .val (.int p3), .val (.int z1), .val (.ref b2), .val (.int ((p2 &&& (255 : Int32)) % (9 : Int32))), .val (.int z18), .unset, .unset] [(.int p3), (.int z18), (.int ((p2 &&& (255 : Int32)) % (9 : Int32))), (.int (2 : Int32)), (.ref b2), (.int z21)])) rfl (by rw [hml]; rfl) (argsL := [(.ref b2), (.int (2 : Int32)), (.int ((p2 &&& (255 : Int32)) % (9 : Int32))), (.int z18), (.int p3)]) (rest := [(.int z21)]) (lenOf own_pd75 rfl) rfl (by show 2 * 0 + _ ≤ _; exact Nat.le_of_eq rfl) (hb hby at_197) (fun _ _ => ⟨rfl, e20, (by decide : 1 + 0 ≤ _), (by decide : 8 + 0 ≤ _)⟩)
  dsimp only [Pt.U, Pt.locs, Pt.cells, Pt.slots] at X22 l22 y22 z22 st22 hQ22
  replace y22 : 1 = k22 := y22.symm
  replace z22 : 8 = n22 := z22.symm
  subst y22 z22
  obtain ⟨rfl, N22q, e22⟩ := hQ22
  have N22 : Fr n0 L22 := by rw [l22]; exact Fr.app N20 N22q
  refine own_go (fun tg k => st22 tg k) ?_
  show own_Fin _ _ _ _ _ _ _ (T22.setTop (mkF m 200 #[.val (.int p0), .val (.long q1), .second, .val (.int p2), .val (.int p3), .val (.int z1), .val (.ref b2), .val (.int ((p2 &&& (255 : Int32)) % (9 : Int32))), .val (.int z18), .unset, .unset] [(.int (own_f3 (2 : Int32) ((p2 &&& (255 : Int32)) % (9 : Int32)) z18 p3 f17)), (.int z21)]))
  refine own_go (fun _ k => XS.iadd X22.here hx rfl (hb hby at_200) rfl k) ?_
  show own_Fin _ _ _ _ _ _ _ (T22.setTop (mkF m 201 #[.val (.int p0), .val (.long q1), .second, .val (.int p2), .val (.int p3), .val (.int z1), .val (.ref b2), .val (.int ((p2 &&& (255 : Int32)) % (9 : Int32))), .val (.int z18), .unset, .unset] [(.int (z21 + (own_f3 (2 : Int32) ((p2 &&& (255 : Int32)) % (9 : Int32)) z18 p3 f17)))]))
  refine own_go (fun _ k => XS.aload X22.here hx rfl (hb hby at_201) rfl rfl k) ?_
  show own_Fin _ _ _ _ _ _ _ (T22.setTop (mkF m 203 #[.val (.int p0), .val (.long q1), .second, .val (.int p2), .val (.int p3), .val (.int z1), .val (.ref b2), .val (.int ((p2 &&& (255 : Int32)) % (9 : Int32))), .val (.int z18), .unset, .unset] [(.ref b2), (.int (z21 + (own_f3 (2 : Int32) ((p2 &&& (255 : Int32)) % (9 : Int32)) z18 p3 f17)))]))
  refine own_go (fun _ k => XS.iconst X22.here hx rfl (hb hby at_203) k) ?_
  show own_Fin _ _ _ _ _ _ _ (T22.setTop (mkF m 204 #[.val (.int p0), .val (.long q1), .second, .val (.int p2), .val (.int p3), .val (.int z1), .val (.ref b2), .val (.int ((p2 &&& (255 : Int32)) % (9 : Int32))), .val (.int z18), .unset, .unset] [(.int (3 : Int32)), (.ref b2), (.int (z21 + (own_f3 (2 : Int32) ((p2 &&& (255 : Int32)) % (9 : Int32)) z18 p3 f17)))]))
  refine own_go (fun _ k => XS.iload X22.here hx rfl (hb hby at_204) rfl k) ?_
  show own_Fin _ _ _ _ _ _ _ (T22.setTop (mkF m 206 #[.val (.int p0), .val (.long q1), .second, .val (.int p2), .val (.int p3), .val (.int z1), .val (.ref b2), .val (.int ((p2 &&& (255 : Int32)) % (9 : Int32))), .val (.int z18), .unset, .unset] [(.int ((p2 &&& (255 : Int32)) % (9 : Int32))), (.int (3 : Int32)), (.ref b2), (.int (z21 + (own_f3 (2 : Int32) ((p2 &&& (255 : Int32)) % (9 : Int32)) z18 p3 f17)))]))
  refine own_go (fun _ k => XS.iload X22.here hx rfl (hb hby at_206) rfl k) ?_
  show own_Fin _ _ _ _ _ _ _ (T22.setTop (mkF m 208 #[.val (.int p0), .val (.long q1), .second, .val (.int p2), .val (.int p3), .val (.int z1), .val (.ref b2), .val (.int ((p2 &&& (255 : Int32)) % (9 : Int32))), .val (.int z18), .unset, .unset] [(.int z18), (.int ((p2 &&& (255 : Int32)) % (9 : Int32))), (.int (3 : Int32)), (.ref b2), (.int (z21 + (own_f3 (2 : Int32) ((p2 &&& (255 : Int32)) % (9 : Int32)) z18 p3 f17)))]))
  refine own_go (fun _ k => XS.iload X22.here hx rfl (hb hby at_208) rfl k) ?_
  show own_Fin _ _ _ _ _ _ _ (T22.setTop (mkF m 210 #[.val (.int p0), .val (.long q1), .second, .val (.int p2), .val (.int p3), .val (.int z1), .val (.ref b2), .val (.int ((p2 &&& (255 : Int32)) % (9 : Int32))), .val (.int z18), .unset, .unset] [(.int p3), (.int z18), (.int ((p2 &&& (255 : Int32)) % (9 : Int32))), (.int (3 : Int32)), (.ref b2), (.int (z21 + (own_f3 (2 : Int32) ((p2 &&& (255 : Int32)) % (9 : Int32)) z18 p3 f17)))]))
  obtain ⟨_, _, ⟨T23, L23, k23, n23⟩, -, X23, ⟨Lc23, hQ23, l23, y23, z23⟩, st23⟩ := Jvm.LawKit.callS X22 hx (y := (⟨"com/example/reachability/reachability/CandidateListFirstAtLeastPinLaw", "lt", "([IIIII)I"⟩ : MethodName)) hown (mvT hZ (hw _ (List.mem_of_getElem? (i := 12) rfl))) (mvT hZ (hw _ (List.mem_of_getElem? (i := 13) rfl))) (mvT hZ (hw _ (List.mem_of_getElem? (i := 4) rfl))) (mvT hZ (hw _ (List.mem_of_getElem? (i := 14) rfl))) (by decide) (backOf (W := 1) (rm3 l Z a0 hw [] b2 (3 : Int32) ((p2 &&& (255 : Int32)) % (9 : Int32)) z18 p3 f17 h17 n0 Z17 A_b2_17 (by rw [← hz18]; exact own_rg _)) hZ (hw _ (List.mem_of_getElem? (i := 14) rfl)) (hw _ (List.mem_of_getElem? (i := 4) rfl)) (by decide) (by decide)) (g := (mkF m 210 #[.val (.int p0), .val (.long q1), .second, .val (.int p2), .val (.int p3), .val (.int z1), .val (.ref b2), .val (.int ((p2 &&& (255 : Int32)) % (9 : Int32))), .val (.int z18), .unset, .unset] [(.int p3), (.int z18), (.int ((p2 &&& (255 : Int32)) % (9 : Int32))), (.int (3 : Int32)), (.ref b2), (.int (z21 + (own_f3 (2 : Int32) ((p2 &&& (255 : Int32)) % (9 : Int32)) z18 p3 f17)))])) rfl (by rw [hml]; rfl) (argsL := [(.ref b2), (.int (3 : Int32)), (.int ((p2 &&& (255 : Int32)) % (9 : Int32))), (.int z18), (.int p3)]) (rest := [(.int (z21 + (own_f3 (2 : Int32) ((p2 &&& (255 : Int32)) % (9 : Int32)) z18 p3 f17)))]) (lenOf own_pd75 rfl) rfl (by show 2 * 0 + _ ≤ _; exact Nat.le_of_eq rfl) (hb hby at_210) (fun _ _ => ⟨rfl, e22, (by decide : 1 + 0 ≤ _), (by decide : 8 + 0 ≤ _)⟩)
  dsimp only [Pt.U, Pt.locs, Pt.cells, Pt.slots] at X23 l23 y23 z23 st23 hQ23
  replace y23 : 1 = k23 := y23.symm
  replace z23 : 8 = n23 := z23.symm
  subst y23 z23
  obtain ⟨rfl, N23q, e23⟩ := hQ23
  have N23 : Fr n0 L23 := by rw [l23]; exact Fr.app N22 N23q
  refine own_go (fun tg k => st23 tg k) ?_
  show own_Fin _ _ _ _ _ _ _ (T23.setTop (mkF m 213 #[.val (.int p0), .val (.long q1), .second, .val (.int p2), .val (.int p3), .val (.int z1), .val (.ref b2), .val (.int ((p2 &&& (255 : Int32)) % (9 : Int32))), .val (.int z18), .unset, .unset] [(.int (own_f3 (3 : Int32) ((p2 &&& (255 : Int32)) % (9 : Int32)) z18 p3 f17)), (.int (z21 + (own_f3 (2 : Int32) ((p2 &&& (255 : Int32)) % (9 : Int32)) z18 p3 f17)))]))
  refine own_go (fun _ k => XS.iadd X23.here hx rfl (hb hby at_213) rfl k) ?_
  show own_Fin _ _ _ _ _ _ _ (T23.setTop (mkF m 214 #[.val (.int p0), .val (.long q1), .second, .val (.int p2), .val (.int p3), .val (.int z1), .val (.ref b2), .val (.int ((p2 &&& (255 : Int32)) % (9 : Int32))), .val (.int z18), .unset, .unset] [(.int ((z21 + (own_f3 (2 : Int32) ((p2 &&& (255 : Int32)) % (9 : Int32)) z18 p3 f17)) + (own_f3 (3 : Int32) ((p2 &&& (255 : Int32)) % (9 : Int32)) z18 p3 f17)))]))
  generalize hz24 : ((z21 + (own_f3 (2 : Int32) ((p2 &&& (255 : Int32)) % (9 : Int32)) z18 p3 f17)) + (own_f3 (3 : Int32) ((p2 &&& (255 : Int32)) % (9 : Int32)) z18 p3 f17)) = z24
  show own_Fin _ _ _ _ _ _ _ (T23.setTop (mkF m 214 #[.val (.int p0), .val (.long q1), .second, .val (.int p2), .val (.int p3), .val (.int z1), .val (.ref b2), .val (.int ((p2 &&& (255 : Int32)) % (9 : Int32))), .val (.int z18), .unset, .unset] [(.int z24)]))
  refine own_go (fun _ k => XS.aload X23.here hx rfl (hb hby at_214) rfl rfl k) ?_
  show own_Fin _ _ _ _ _ _ _ (T23.setTop (mkF m 216 #[.val (.int p0), .val (.long q1), .second, .val (.int p2), .val (.int p3), .val (.int z1), .val (.ref b2), .val (.int ((p2 &&& (255 : Int32)) % (9 : Int32))), .val (.int z18), .unset, .unset] [(.ref b2), (.int z24)]))
  refine own_go (fun _ k => XS.iconst X23.here hx rfl (hb hby at_216) k) ?_
  show own_Fin _ _ _ _ _ _ _ (T23.setTop (mkF m 217 #[.val (.int p0), .val (.long q1), .second, .val (.int p2), .val (.int p3), .val (.int z1), .val (.ref b2), .val (.int ((p2 &&& (255 : Int32)) % (9 : Int32))), .val (.int z18), .unset, .unset] [(.int (4 : Int32)), (.ref b2), (.int z24)]))
  refine own_go (fun _ k => XS.iload X23.here hx rfl (hb hby at_217) rfl k) ?_
  show own_Fin _ _ _ _ _ _ _ (T23.setTop (mkF m 219 #[.val (.int p0), .val (.long q1), .second, .val (.int p2), .val (.int p3), .val (.int z1), .val (.ref b2), .val (.int ((p2 &&& (255 : Int32)) % (9 : Int32))), .val (.int z18), .unset, .unset] [(.int ((p2 &&& (255 : Int32)) % (9 : Int32))), (.int (4 : Int32)), (.ref b2), (.int z24)]))
  refine own_go (fun _ k => XS.iload X23.here hx rfl (hb hby at_219) rfl k) ?_
  show own_Fin _ _ _ _ _ _ _ (T23.setTop (mkF m 221 #[.val (.int p0), .val (.long q1), .second, .val (.int p2), .val (.int p3), .val (.int z1), .val (.ref b2), .val (.int ((p2 &&& (255 : Int32)) % (9 : Int32))), .val (.int z18), .unset, .unset] [(.int z18), (.int ((p2 &&& (255 : Int32)) % (9 : Int32))), (.int (4 : Int32)), (.ref b2), (.int z24)]))
  refine own_go (fun _ k => XS.iload X23.here hx rfl (hb hby at_221) rfl k) ?_
  show own_Fin _ _ _ _ _ _ _ (T23.setTop (mkF m 223 #[.val (.int p0), .val (.long q1), .second, .val (.int p2), .val (.int p3), .val (.int z1), .val (.ref b2), .val (.int ((p2 &&& (255 : Int32)) % (9 : Int32))), .val (.int z18), .unset, .unset] [(.int p3), (.int z18), (.int ((p2 &&& (255 : Int32)) % (9 : Int32))), (.int (4 : Int32)), (.ref b2), (.int z24)]))
  obtain ⟨_, _, ⟨T25, L25, k25, n25⟩, -, X25, ⟨Lc25, hQ25, l25, y25, z25⟩, st25⟩ := Jvm.LawKit.callS X23 hx (y := (⟨"com/example/reachability/reachability/CandidateListFirstAtLeastPinLaw", "lt", "([IIIII)I"⟩ : MethodName)) hown (mvT hZ (hw _ (List.mem_of_getElem? (i := 12) rfl))) (mvT hZ (hw _ (List.mem_of_getElem? (i := 13) rfl))) (mvT hZ (hw _ (List.mem_of_getElem? (i := 4) rfl))) (mvT hZ (hw _ (List.mem_of_getElem? (i := 14) rfl))) (by decide) (backOf (W := 1) (rm3 l Z a0 hw [] b2 (4 : Int32) ((p2 &&& (255 : Int32)) % (9 : Int32)) z18 p3 f17 h17 n0 Z17 A_b2_17 (by rw [← hz18]; exact own_rg _)) hZ (hw _ (List.mem_of_getElem? (i := 14) rfl)) (hw _ (List.mem_of_getElem? (i := 4) rfl)) (by decide) (by decide)) (g := (mkF m 223 #[.val (.int p0), .val (.long q1), .second, .val (.int p2), .val (.int p3), .val (.int z1), .val (.ref b2), .val (.int ((p2 &&& (255 : Int32)) % (9 : Int32))), .val (.int z18), .unset, .unset] [(.int p3), (.int z18), (.int ((p2 &&& (255 : Int32)) % (9 : Int32))), (.int (4 : Int32)), (.ref b2), (.int z24)])) rfl (by rw [hml]; rfl) (argsL := [(.ref b2), (.int (4 : Int32)), (.int ((p2 &&& (255 : Int32)) % (9 : Int32))), (.int z18), (.int p3)]) (rest := [(.int z24)]) (lenOf own_pd75 rfl) rfl (by show 2 * 0 + _ ≤ _; exact Nat.le_of_eq rfl) (hb hby at_223) (fun _ _ => ⟨rfl, e23, (by decide : 1 + 0 ≤ _), (by decide : 8 + 0 ≤ _)⟩)
  dsimp only [Pt.U, Pt.locs, Pt.cells, Pt.slots] at X25 l25 y25 z25 st25 hQ25
  replace y25 : 1 = k25 := y25.symm
  replace z25 : 8 = n25 := z25.symm
  subst y25 z25
  obtain ⟨rfl, N25q, e25⟩ := hQ25
  have N25 : Fr n0 L25 := by rw [l25]; exact Fr.app N23 N25q
  refine own_go (fun tg k => st25 tg k) ?_
  show own_Fin _ _ _ _ _ _ _ (T25.setTop (mkF m 226 #[.val (.int p0), .val (.long q1), .second, .val (.int p2), .val (.int p3), .val (.int z1), .val (.ref b2), .val (.int ((p2 &&& (255 : Int32)) % (9 : Int32))), .val (.int z18), .unset, .unset] [(.int (own_f3 (4 : Int32) ((p2 &&& (255 : Int32)) % (9 : Int32)) z18 p3 f17)), (.int z24)]))
  refine own_go (fun _ k => XS.iadd X25.here hx rfl (hb hby at_226) rfl k) ?_
  show own_Fin _ _ _ _ _ _ _ (T25.setTop (mkF m 227 #[.val (.int p0), .val (.long q1), .second, .val (.int p2), .val (.int p3), .val (.int z1), .val (.ref b2), .val (.int ((p2 &&& (255 : Int32)) % (9 : Int32))), .val (.int z18), .unset, .unset] [(.int (z24 + (own_f3 (4 : Int32) ((p2 &&& (255 : Int32)) % (9 : Int32)) z18 p3 f17)))]))
  refine own_go (fun _ k => XS.aload X25.here hx rfl (hb hby at_227) rfl rfl k) ?_
  show own_Fin _ _ _ _ _ _ _ (T25.setTop (mkF m 229 #[.val (.int p0), .val (.long q1), .second, .val (.int p2), .val (.int p3), .val (.int z1), .val (.ref b2), .val (.int ((p2 &&& (255 : Int32)) % (9 : Int32))), .val (.int z18), .unset, .unset] [(.ref b2), (.int (z24 + (own_f3 (4 : Int32) ((p2 &&& (255 : Int32)) % (9 : Int32)) z18 p3 f17)))]))
  refine own_go (fun _ k => XS.iconst X25.here hx rfl (hb hby at_229) k) ?_
  show own_Fin _ _ _ _ _ _ _ (T25.setTop (mkF m 230 #[.val (.int p0), .val (.long q1), .second, .val (.int p2), .val (.int p3), .val (.int z1), .val (.ref b2), .val (.int ((p2 &&& (255 : Int32)) % (9 : Int32))), .val (.int z18), .unset, .unset] [(.int (5 : Int32)), (.ref b2), (.int (z24 + (own_f3 (4 : Int32) ((p2 &&& (255 : Int32)) % (9 : Int32)) z18 p3 f17)))]))
  refine own_go (fun _ k => XS.iload X25.here hx rfl (hb hby at_230) rfl k) ?_
  show own_Fin _ _ _ _ _ _ _ (T25.setTop (mkF m 232 #[.val (.int p0), .val (.long q1), .second, .val (.int p2), .val (.int p3), .val (.int z1), .val (.ref b2), .val (.int ((p2 &&& (255 : Int32)) % (9 : Int32))), .val (.int z18), .unset, .unset] [(.int ((p2 &&& (255 : Int32)) % (9 : Int32))), (.int (5 : Int32)), (.ref b2), (.int (z24 + (own_f3 (4 : Int32) ((p2 &&& (255 : Int32)) % (9 : Int32)) z18 p3 f17)))]))
  refine own_go (fun _ k => XS.iload X25.here hx rfl (hb hby at_232) rfl k) ?_
  show own_Fin _ _ _ _ _ _ _ (T25.setTop (mkF m 234 #[.val (.int p0), .val (.long q1), .second, .val (.int p2), .val (.int p3), .val (.int z1), .val (.ref b2), .val (.int ((p2 &&& (255 : Int32)) % (9 : Int32))), .val (.int z18), .unset, .unset] [(.int z18), (.int ((p2 &&& (255 : Int32)) % (9 : Int32))), (.int (5 : Int32)), (.ref b2), (.int (z24 + (own_f3 (4 : Int32) ((p2 &&& (255 : Int32)) % (9 : Int32)) z18 p3 f17)))]))
  refine own_go (fun _ k => XS.iload X25.here hx rfl (hb hby at_234) rfl k) ?_
  show own_Fin _ _ _ _ _ _ _ (T25.setTop (mkF m 236 #[.val (.int p0), .val (.long q1), .second, .val (.int p2), .val (.int p3), .val (.int z1), .val (.ref b2), .val (.int ((p2 &&& (255 : Int32)) % (9 : Int32))), .val (.int z18), .unset, .unset] [(.int p3), (.int z18), (.int ((p2 &&& (255 : Int32)) % (9 : Int32))), (.int (5 : Int32)), (.ref b2), (.int (z24 + (own_f3 (4 : Int32) ((p2 &&& (255 : Int32)) % (9 : Int32)) z18 p3 f17)))]))
  obtain ⟨_, _, ⟨T26, L26, k26, n26⟩, -, X26, ⟨Lc26, hQ26, l26, y26, z26⟩, st26⟩ := Jvm.LawKit.callS X25 hx (y := (⟨"com/example/reachability/reachability/CandidateListFirstAtLeastPinLaw", "lt", "([IIIII)I"⟩ : MethodName)) hown (mvT hZ (hw _ (List.mem_of_getElem? (i := 12) rfl))) (mvT hZ (hw _ (List.mem_of_getElem? (i := 13) rfl))) (mvT hZ (hw _ (List.mem_of_getElem? (i := 4) rfl))) (mvT hZ (hw _ (List.mem_of_getElem? (i := 14) rfl))) (by decide) (backOf (W := 1) (rm3 l Z a0 hw [] b2 (5 : Int32) ((p2 &&& (255 : Int32)) % (9 : Int32)) z18 p3 f17 h17 n0 Z17 A_b2_17 (by rw [← hz18]; exact own_rg _)) hZ (hw _ (List.mem_of_getElem? (i := 14) rfl)) (hw _ (List.mem_of_getElem? (i := 4) rfl)) (by decide) (by decide)) (g := (mkF m 236 #[.val (.int p0), .val (.long q1), .second, .val (.int p2), .val (.int p3), .val (.int z1), .val (.ref b2), .val (.int ((p2 &&& (255 : Int32)) % (9 : Int32))), .val (.int z18), .unset, .unset] [(.int p3), (.int z18), (.int ((p2 &&& (255 : Int32)) % (9 : Int32))), (.int (5 : Int32)), (.ref b2), (.int (z24 + (own_f3 (4 : Int32) ((p2 &&& (255 : Int32)) % (9 : Int32)) z18 p3 f17)))])) rfl (by rw [hml]; rfl) (argsL := [(.ref b2), (.int (5 : Int32)), (.int ((p2 &&& (255 : Int32)) % (9 : Int32))), (.int z18), (.int p3)]) (rest := [(.int (z24 + (own_f3 (4 : Int32) ((p2 &&& (255 : Int32)) % (9 : Int32)) z18 p3 f17)))]) (lenOf own_pd75 rfl) rfl (by show 2 * 0 + _ ≤ _; exact Nat.le_of_eq rfl) (hb hby at_236) (fun _ _ => ⟨rfl, e25, (by decide : 1 + 0 ≤ _), (by decide : 8 + 0 ≤ _)⟩)
  dsimp only [Pt.U, Pt.locs, Pt.cells, Pt.slots] at X26 l26 y26 z26 st26 hQ26
  replace y26 : 1 = k26 := y26.symm
  replace z26 : 8 = n26 := z26.symm
  subst y26 z26
  obtain ⟨rfl, N26q, e26⟩ := hQ26
  have N26 : Fr n0 L26 := by rw [l26]; exact Fr.app N25 N26q
  refine own_go (fun tg k => st26 tg k) ?_
  show own_Fin _ _ _ _ _ _ _ (T26.setTop (mkF m 239 #[.val (.int p0), .val (.long q1), .second, .val (.int p2), .val (.int p3), .val (.int z1), .val (.ref b2), .val (.int ((p2 &&& (255 : Int32)) % (9 : Int32))), .val (.int z18), .unset, .unset] [(.int (own_f3 (5 : Int32) ((p2 &&& (255 : Int32)) % (9 : Int32)) z18 p3 f17)), (.int (z24 + (own_f3 (4 : Int32) ((p2 &&& (255 : Int32)) % (9 : Int32)) z18 p3 f17)))]))
  refine own_go (fun _ k => XS.iadd X26.here hx rfl (hb hby at_239) rfl k) ?_
  show own_Fin _ _ _ _ _ _ _ (T26.setTop (mkF m 240 #[.val (.int p0), .val (.long q1), .second, .val (.int p2), .val (.int p3), .val (.int z1), .val (.ref b2), .val (.int ((p2 &&& (255 : Int32)) % (9 : Int32))), .val (.int z18), .unset, .unset] [(.int ((z24 + (own_f3 (4 : Int32) ((p2 &&& (255 : Int32)) % (9 : Int32)) z18 p3 f17)) + (own_f3 (5 : Int32) ((p2 &&& (255 : Int32)) % (9 : Int32)) z18 p3 f17)))]))
  generalize hz27 : ((z24 + (own_f3 (4 : Int32) ((p2 &&& (255 : Int32)) % (9 : Int32)) z18 p3 f17)) + (own_f3 (5 : Int32) ((p2 &&& (255 : Int32)) % (9 : Int32)) z18 p3 f17)) = z27
  show own_Fin _ _ _ _ _ _ _ (T26.setTop (mkF m 240 #[.val (.int p0), .val (.long q1), .second, .val (.int p2), .val (.int p3), .val (.int z1), .val (.ref b2), .val (.int ((p2 &&& (255 : Int32)) % (9 : Int32))), .val (.int z18), .unset, .unset] [(.int z27)]))
  refine own_go (fun _ k => XS.aload X26.here hx rfl (hb hby at_240) rfl rfl k) ?_
  show own_Fin _ _ _ _ _ _ _ (T26.setTop (mkF m 242 #[.val (.int p0), .val (.long q1), .second, .val (.int p2), .val (.int p3), .val (.int z1), .val (.ref b2), .val (.int ((p2 &&& (255 : Int32)) % (9 : Int32))), .val (.int z18), .unset, .unset] [(.ref b2), (.int z27)]))
  refine own_go (fun _ k => XS.bipush X26.here hx rfl (hb hby at_242) k) ?_
  show own_Fin _ _ _ _ _ _ _ (T26.setTop (mkF m 244 #[.val (.int p0), .val (.long q1), .second, .val (.int p2), .val (.int p3), .val (.int z1), .val (.ref b2), .val (.int ((p2 &&& (255 : Int32)) % (9 : Int32))), .val (.int z18), .unset, .unset] [(.int (6 : Int32)), (.ref b2), (.int z27)]))
  refine own_go (fun _ k => XS.iload X26.here hx rfl (hb hby at_244) rfl k) ?_
  show own_Fin _ _ _ _ _ _ _ (T26.setTop (mkF m 246 #[.val (.int p0), .val (.long q1), .second, .val (.int p2), .val (.int p3), .val (.int z1), .val (.ref b2), .val (.int ((p2 &&& (255 : Int32)) % (9 : Int32))), .val (.int z18), .unset, .unset] [(.int ((p2 &&& (255 : Int32)) % (9 : Int32))), (.int (6 : Int32)), (.ref b2), (.int z27)]))
  refine own_go (fun _ k => XS.iload X26.here hx rfl (hb hby at_246) rfl k) ?_
  show own_Fin _ _ _ _ _ _ _ (T26.setTop (mkF m 248 #[.val (.int p0), .val (.long q1), .second, .val (.int p2), .val (.int p3), .val (.int z1), .val (.ref b2), .val (.int ((p2 &&& (255 : Int32)) % (9 : Int32))), .val (.int z18), .unset, .unset] [(.int z18), (.int ((p2 &&& (255 : Int32)) % (9 : Int32))), (.int (6 : Int32)), (.ref b2), (.int z27)]))
  refine own_go (fun _ k => XS.iload X26.here hx rfl (hb hby at_248) rfl k) ?_
  show own_Fin _ _ _ _ _ _ _ (T26.setTop (mkF m 250 #[.val (.int p0), .val (.long q1), .second, .val (.int p2), .val (.int p3), .val (.int z1), .val (.ref b2), .val (.int ((p2 &&& (255 : Int32)) % (9 : Int32))), .val (.int z18), .unset, .unset] [(.int p3), (.int z18), (.int ((p2 &&& (255 : Int32)) % (9 : Int32))), (.int (6 : Int32)), (.ref b2), (.int z27)]))
  obtain ⟨_, _, ⟨T28, L28, k28, n28⟩, -, X28, ⟨Lc28, hQ28, l28, y28, z28⟩, st28⟩ := Jvm.LawKit.callS X26 hx (y := (⟨"com/example/reachability/reachability/CandidateListFirstAtLeastPinLaw", "lt", "([IIIII)I"⟩ : MethodName)) hown (mvT hZ (hw _ (List.mem_of_getElem? (i := 12) rfl))) (mvT hZ (hw _ (List.mem_of_getElem? (i := 13) rfl))) (mvT hZ (hw _ (List.mem_of_getElem? (i := 4) rfl))) (mvT hZ (hw _ (List.mem_of_getElem? (i := 14) rfl))) (by decide) (backOf (W := 1) (rm3 l Z a0 hw [] b2 (6 : Int32) ((p2 &&& (255 : Int32)) % (9 : Int32)) z18 p3 f17 h17 n0 Z17 A_b2_17 (by rw [← hz18]; exact own_rg _)) hZ (hw _ (List.mem_of_getElem? (i := 14) rfl)) (hw _ (List.mem_of_getElem? (i := 4) rfl)) (by decide) (by decide)) (g := (mkF m 250 #[.val (.int p0), .val (.long q1), .second, .val (.int p2), .val (.int p3), .val (.int z1), .val (.ref b2), .val (.int ((p2 &&& (255 : Int32)) % (9 : Int32))), .val (.int z18), .unset, .unset] [(.int p3), (.int z18), (.int ((p2 &&& (255 : Int32)) % (9 : Int32))), (.int (6 : Int32)), (.ref b2), (.int z27)])) rfl (by rw [hml]; rfl) (argsL := [(.ref b2), (.int (6 : Int32)), (.int ((p2 &&& (255 : Int32)) % (9 : Int32))), (.int z18), (.int p3)]) (rest := [(.int z27)]) (lenOf own_pd75 rfl) rfl (by show 2 * 0 + _ ≤ _; exact Nat.le_of_eq rfl) (hb hby at_250) (fun _ _ => ⟨rfl, e26, (by decide : 1 + 0 ≤ _), (by decide : 8 + 0 ≤ _)⟩)
  dsimp only [Pt.U, Pt.locs, Pt.cells, Pt.slots] at X28 l28 y28 z28 st28 hQ28
  replace y28 : 1 = k28 := y28.symm
  replace z28 : 8 = n28 := z28.symm
  subst y28 z28
  obtain ⟨rfl, N28q, e28⟩ := hQ28
  have N28 : Fr n0 L28 := by rw [l28]; exact Fr.app N26 N28q
  refine own_go (fun tg k => st28 tg k) ?_
  show own_Fin _ _ _ _ _ _ _ (T28.setTop (mkF m 253 #[.val (.int p0), .val (.long q1), .second, .val (.int p2), .val (.int p3), .val (.int z1), .val (.ref b2), .val (.int ((p2 &&& (255 : Int32)) % (9 : Int32))), .val (.int z18), .unset, .unset] [(.int (own_f3 (6 : Int32) ((p2 &&& (255 : Int32)) % (9 : Int32)) z18 p3 f17)), (.int z27)]))
  refine own_go (fun _ k => XS.iadd X28.here hx rfl (hb hby at_253) rfl k) ?_
  show own_Fin _ _ _ _ _ _ _ (T28.setTop (mkF m 254 #[.val (.int p0), .val (.long q1), .second, .val (.int p2), .val (.int p3), .val (.int z1), .val (.ref b2), .val (.int ((p2 &&& (255 : Int32)) % (9 : Int32))), .val (.int z18), .unset, .unset] [(.int (z27 + (own_f3 (6 : Int32) ((p2 &&& (255 : Int32)) % (9 : Int32)) z18 p3 f17)))]))
  refine own_go (fun _ k => XS.aload X28.here hx rfl (hb hby at_254) rfl rfl k) ?_
  show own_Fin _ _ _ _ _ _ _ (T28.setTop (mkF m 256 #[.val (.int p0), .val (.long q1), .second, .val (.int p2), .val (.int p3), .val (.int z1), .val (.ref b2), .val (.int ((p2 &&& (255 : Int32)) % (9 : Int32))), .val (.int z18), .unset, .unset] [(.ref b2), (.int (z27 + (own_f3 (6 : Int32) ((p2 &&& (255 : Int32)) % (9 : Int32)) z18 p3 f17)))]))
  refine own_go (fun _ k => XS.bipush X28.here hx rfl (hb hby at_256) k) ?_
  show own_Fin _ _ _ _ _ _ _ (T28.setTop (mkF m 258 #[.val (.int p0), .val (.long q1), .second, .val (.int p2), .val (.int p3), .val (.int z1), .val (.ref b2), .val (.int ((p2 &&& (255 : Int32)) % (9 : Int32))), .val (.int z18), .unset, .unset] [(.int (7 : Int32)), (.ref b2), (.int (z27 + (own_f3 (6 : Int32) ((p2 &&& (255 : Int32)) % (9 : Int32)) z18 p3 f17)))]))
  refine own_go (fun _ k => XS.iload X28.here hx rfl (hb hby at_258) rfl k) ?_
  show own_Fin _ _ _ _ _ _ _ (T28.setTop (mkF m 260 #[.val (.int p0), .val (.long q1), .second, .val (.int p2), .val (.int p3), .val (.int z1), .val (.ref b2), .val (.int ((p2 &&& (255 : Int32)) % (9 : Int32))), .val (.int z18), .unset, .unset] [(.int ((p2 &&& (255 : Int32)) % (9 : Int32))), (.int (7 : Int32)), (.ref b2), (.int (z27 + (own_f3 (6 : Int32) ((p2 &&& (255 : Int32)) % (9 : Int32)) z18 p3 f17)))]))
  refine own_go (fun _ k => XS.iload X28.here hx rfl (hb hby at_260) rfl k) ?_
  show own_Fin _ _ _ _ _ _ _ (T28.setTop (mkF m 262 #[.val (.int p0), .val (.long q1), .second, .val (.int p2), .val (.int p3), .val (.int z1), .val (.ref b2), .val (.int ((p2 &&& (255 : Int32)) % (9 : Int32))), .val (.int z18), .unset, .unset] [(.int z18), (.int ((p2 &&& (255 : Int32)) % (9 : Int32))), (.int (7 : Int32)), (.ref b2), (.int (z27 + (own_f3 (6 : Int32) ((p2 &&& (255 : Int32)) % (9 : Int32)) z18 p3 f17)))]))
  refine own_go (fun _ k => XS.iload X28.here hx rfl (hb hby at_262) rfl k) ?_
  show own_Fin _ _ _ _ _ _ _ (T28.setTop (mkF m 264 #[.val (.int p0), .val (.long q1), .second, .val (.int p2), .val (.int p3), .val (.int z1), .val (.ref b2), .val (.int ((p2 &&& (255 : Int32)) % (9 : Int32))), .val (.int z18), .unset, .unset] [(.int p3), (.int z18), (.int ((p2 &&& (255 : Int32)) % (9 : Int32))), (.int (7 : Int32)), (.ref b2), (.int (z27 + (own_f3 (6 : Int32) ((p2 &&& (255 : Int32)) % (9 : Int32)) z18 p3 f17)))]))
  obtain ⟨_, _, ⟨T29, L29, k29, n29⟩, -, X29, ⟨Lc29, hQ29, l29, y29, z29⟩, st29⟩ := Jvm.LawKit.callS X28 hx (y := (⟨"com/example/reachability/reachability/CandidateListFirstAtLeastPinLaw", "lt", "([IIIII)I"⟩ : MethodName)) hown (mvT hZ (hw _ (List.mem_of_getElem? (i := 12) rfl))) (mvT hZ (hw _ (List.mem_of_getElem? (i := 13) rfl))) (mvT hZ (hw _ (List.mem_of_getElem? (i := 4) rfl))) (mvT hZ (hw _ (List.mem_of_getElem? (i := 14) rfl))) (by decide) (backOf (W := 1) (rm3 l Z a0 hw [] b2 (7 : Int32) ((p2 &&& (255 : Int32)) % (9 : Int32)) z18 p3 f17 h17 n0 Z17 A_b2_17 (by rw [← hz18]; exact own_rg _)) hZ (hw _ (List.mem_of_getElem? (i := 14) rfl)) (hw _ (List.mem_of_getElem? (i := 4) rfl)) (by decide) (by decide)) (g := (mkF m 264 #[.val (.int p0), .val (.long q1), .second, .val (.int p2), .val (.int p3), .val (.int z1), .val (.ref b2), .val (.int ((p2 &&& (255 : Int32)) % (9 : Int32))), .val (.int z18), .unset, .unset] [(.int p3), (.int z18), (.int ((p2 &&& (255 : Int32)) % (9 : Int32))), (.int (7 : Int32)), (.ref b2), (.int (z27 + (own_f3 (6 : Int32) ((p2 &&& (255 : Int32)) % (9 : Int32)) z18 p3 f17)))])) rfl (by rw [hml]; rfl) (argsL := [(.ref b2), (.int (7 : Int32)), (.int ((p2 &&& (255 : Int32)) % (9 : Int32))), (.int z18), (.int p3)]) (rest := [(.int (z27 + (own_f3 (6 : Int32) ((p2 &&& (255 : Int32)) % (9 : Int32)) z18 p3 f17)))]) (lenOf own_pd75 rfl) rfl (by show 2 * 0 + _ ≤ _; exact Nat.le_of_eq rfl) (hb hby at_264) (fun _ _ => ⟨rfl, e28, (by decide : 1 + 0 ≤ _), (by decide : 8 + 0 ≤ _)⟩)
  dsimp only [Pt.U, Pt.locs, Pt.cells, Pt.slots] at X29 l29 y29 z29 st29 hQ29
  replace y29 : 1 = k29 := y29.symm
  replace z29 : 8 = n29 := z29.symm
  subst y29 z29
  obtain ⟨rfl, N29q, e29⟩ := hQ29
  have N29 : Fr n0 L29 := by rw [l29]; exact Fr.app N28 N29q
  refine own_go (fun tg k => st29 tg k) ?_
  show own_Fin _ _ _ _ _ _ _ (T29.setTop (mkF m 267 #[.val (.int p0), .val (.long q1), .second, .val (.int p2), .val (.int p3), .val (.int z1), .val (.ref b2), .val (.int ((p2 &&& (255 : Int32)) % (9 : Int32))), .val (.int z18), .unset, .unset] [(.int (own_f3 (7 : Int32) ((p2 &&& (255 : Int32)) % (9 : Int32)) z18 p3 f17)), (.int (z27 + (own_f3 (6 : Int32) ((p2 &&& (255 : Int32)) % (9 : Int32)) z18 p3 f17)))]))
  refine own_go (fun _ k => XS.iadd X29.here hx rfl (hb hby at_267) rfl k) ?_
  show own_Fin _ _ _ _ _ _ _ (T29.setTop (mkF m 268 #[.val (.int p0), .val (.long q1), .second, .val (.int p2), .val (.int p3), .val (.int z1), .val (.ref b2), .val (.int ((p2 &&& (255 : Int32)) % (9 : Int32))), .val (.int z18), .unset, .unset] [(.int ((z27 + (own_f3 (6 : Int32) ((p2 &&& (255 : Int32)) % (9 : Int32)) z18 p3 f17)) + (own_f3 (7 : Int32) ((p2 &&& (255 : Int32)) % (9 : Int32)) z18 p3 f17)))]))
  generalize hz30 : ((z27 + (own_f3 (6 : Int32) ((p2 &&& (255 : Int32)) % (9 : Int32)) z18 p3 f17)) + (own_f3 (7 : Int32) ((p2 &&& (255 : Int32)) % (9 : Int32)) z18 p3 f17)) = z30
  show own_Fin _ _ _ _ _ _ _ (T29.setTop (mkF m 268 #[.val (.int p0), .val (.long q1), .second, .val (.int p2), .val (.int p3), .val (.int z1), .val (.ref b2), .val (.int ((p2 &&& (255 : Int32)) % (9 : Int32))), .val (.int z18), .unset, .unset] [(.int z30)]))
  refine own_go (fun _ k => XS.istore X29.here hx rfl (hb hby at_268) rfl (l' := #[.val (.int p0), .val (.long q1), .second, .val (.int p2), .val (.int p3), .val (.int z1), .val (.ref b2), .val (.int ((p2 &&& (255 : Int32)) % (9 : Int32))), .val (.int z18), .val (.int z30), .unset]) rfl k) ?_
  show own_Fin _ _ _ _ _ _ _ (T29.setTop (mkF m 270 #[.val (.int p0), .val (.long q1), .second, .val (.int p2), .val (.int p3), .val (.int z1), .val (.ref b2), .val (.int ((p2 &&& (255 : Int32)) % (9 : Int32))), .val (.int z18), .val (.int z30), .unset] []))
  refine own_go (fun _ k => XS.aload X29.here hx rfl (hb hby at_270) rfl rfl k) ?_
  show own_Fin _ _ _ _ _ _ _ (T29.setTop (mkF m 272 #[.val (.int p0), .val (.long q1), .second, .val (.int p2), .val (.int p3), .val (.int z1), .val (.ref b2), .val (.int ((p2 &&& (255 : Int32)) % (9 : Int32))), .val (.int z18), .val (.int z30), .unset] [(.ref b2)]))
  refine own_go (fun _ k => XS.iload X29.here hx rfl (hb hby at_272) rfl k) ?_
  show own_Fin _ _ _ _ _ _ _ (T29.setTop (mkF m 274 #[.val (.int p0), .val (.long q1), .second, .val (.int p2), .val (.int p3), .val (.int z1), .val (.ref b2), .val (.int ((p2 &&& (255 : Int32)) % (9 : Int32))), .val (.int z18), .val (.int z30), .unset] [(.int ((p2 &&& (255 : Int32)) % (9 : Int32))), (.ref b2)]))
  refine own_go (fun _ k => XS.iload X29.here hx rfl (hb hby at_274) rfl k) ?_
  show own_Fin _ _ _ _ _ _ _ (T29.setTop (mkF m 276 #[.val (.int p0), .val (.long q1), .second, .val (.int p2), .val (.int p3), .val (.int z1), .val (.ref b2), .val (.int ((p2 &&& (255 : Int32)) % (9 : Int32))), .val (.int z18), .val (.int z30), .unset] [(.int z18), (.int ((p2 &&& (255 : Int32)) % (9 : Int32))), (.ref b2)]))
  refine own_go (fun _ k => XS.iload X29.here hx rfl (hb hby at_276) rfl k) ?_
  show own_Fin _ _ _ _ _ _ _ (T29.setTop (mkF m 278 #[.val (.int p0), .val (.long q1), .second, .val (.int p2), .val (.int p3), .val (.int z1), .val (.ref b2), .val (.int ((p2 &&& (255 : Int32)) % (9 : Int32))), .val (.int z18), .val (.int z30), .unset] [(.int p3), (.int z18), (.int ((p2 &&& (255 : Int32)) % (9 : Int32))), (.ref b2)]))
  obtain ⟨_, _, ⟨T31, L31, k31, n31⟩, -, X31, ⟨Lc31, hQ31, l31, y31, z31⟩, st31⟩ := Jvm.LawKit.callS X29 hx (y := (⟨"com/example/reachability/reachability/CandidateList", "firstAtLeast", "([IIII)I"⟩ : MethodName)) hown (mvT hZ (hw _ (List.mem_of_getElem? (i := 15) rfl))) (mvT hZ (hw _ (List.mem_of_getElem? (i := 16) rfl))) (mvT hZ (hw _ (List.mem_of_getElem? (i := 17) rfl))) (mvT hZ (hw _ (List.mem_of_getElem? (i := 18) rfl))) (by decide) (backOf (W := 0) (rm4 l Z a0 hw [] b2 ((p2 &&& (255 : Int32)) % (9 : Int32)) z18 p3 f17 h17 n0 Z17 A_b2_17 (by rw [← hz18]; exact own_rg _)) hZ (hw _ (List.mem_of_getElem? (i := 18) rfl)) (hw _ (List.mem_of_getElem? (i := 17) rfl)) (by decide) (by decide)) (g := (mkF m 278 #[.val (.int p0), .val (.long q1), .second, .val (.int p2), .val (.int p3), .val (.int z1), .val (.ref b2), .val (.int ((p2 &&& (255 : Int32)) % (9 : Int32))), .val (.int z18), .val (.int z30), .unset] [(.int p3), (.int z18), (.int ((p2 &&& (255 : Int32)) % (9 : Int32))), (.ref b2)])) rfl (by rw [hml]; rfl) (argsL := [(.ref b2), (.int ((p2 &&& (255 : Int32)) % (9 : Int32))), (.int z18), (.int p3)]) (rest := []) (lenOf own_pd76 rfl) rfl (by show 2 * 0 + _ ≤ _; exact Nat.le_of_eq rfl) (hb hby at_278) (fun _ _ => ⟨rfl, e29, (by decide : 1 + 0 ≤ _), (by decide : 8 + 0 ≤ _)⟩)
  dsimp only [Pt.U, Pt.locs, Pt.cells, Pt.slots] at X31 l31 y31 z31 st31 hQ31
  replace y31 : 1 = k31 := y31.symm
  replace z31 : 8 = n31 := z31.symm
  subst y31 z31
  obtain ⟨rfl, N31q, e31⟩ := hQ31
  have N31 : Fr n0 L31 := by rw [l31]; exact Fr.app N29 N31q
  refine own_go (fun tg k => st31 tg k) ?_
  show own_Fin _ _ _ _ _ _ _ (T31.setTop (mkF m 281 #[.val (.int p0), .val (.long q1), .second, .val (.int p2), .val (.int p3), .val (.int z1), .val (.ref b2), .val (.int ((p2 &&& (255 : Int32)) % (9 : Int32))), .val (.int z18), .val (.int z30), .unset] [(.int (own_falE f17 p3 ((p2 &&& (255 : Int32)) % (9 : Int32)) z18))]))
  refine own_go (fun _ k => XS.istore X31.here hx rfl (hb hby at_281) rfl (l' := #[.val (.int p0), .val (.long q1), .second, .val (.int p2), .val (.int p3), .val (.int z1), .val (.ref b2), .val (.int ((p2 &&& (255 : Int32)) % (9 : Int32))), .val (.int z18), .val (.int z30), .val (.int (own_falE f17 p3 ((p2 &&& (255 : Int32)) % (9 : Int32)) z18))]) rfl k) ?_
  show own_Fin _ _ _ _ _ _ _ (T31.setTop (mkF m 283 #[.val (.int p0), .val (.long q1), .second, .val (.int p2), .val (.int p3), .val (.int z1), .val (.ref b2), .val (.int ((p2 &&& (255 : Int32)) % (9 : Int32))), .val (.int z18), .val (.int z30), .val (.int (own_falE f17 p3 ((p2 &&& (255 : Int32)) % (9 : Int32)) z18))] []))
  generalize hz32 : (own_falE f17 p3 ((p2 &&& (255 : Int32)) % (9 : Int32)) z18) = z32
  show own_Fin _ _ _ _ _ _ _ (T31.setTop (mkF m 283 #[.val (.int p0), .val (.long q1), .second, .val (.int p2), .val (.int p3), .val (.int z1), .val (.ref b2), .val (.int ((p2 &&& (255 : Int32)) % (9 : Int32))), .val (.int z18), .val (.int z30), .val (.int z32)] []))
  refine own_go (fun _ k => XS.iload X31.here hx rfl (hb hby at_283) rfl k) ?_
  show own_Fin _ _ _ _ _ _ _ (T31.setTop (mkF m 285 #[.val (.int p0), .val (.long q1), .second, .val (.int p2), .val (.int p3), .val (.int z1), .val (.ref b2), .val (.int ((p2 &&& (255 : Int32)) % (9 : Int32))), .val (.int z18), .val (.int z30), .val (.int z32)] [(.int z32)]))
  refine own_go (fun _ k => XS.iload X31.here hx rfl (hb hby at_285) rfl k) ?_
  show own_Fin _ _ _ _ _ _ _ (T31.setTop (mkF m 287 #[.val (.int p0), .val (.long q1), .second, .val (.int p2), .val (.int p3), .val (.int z1), .val (.ref b2), .val (.int ((p2 &&& (255 : Int32)) % (9 : Int32))), .val (.int z18), .val (.int z30), .val (.int z32)] [(.int z30), (.int z32)]))
  by_cases hc33 : z32 = z30
  · refine own_go (fun _ k => XS.icmpNo X31.here hx rfl (hb hby at_287) rfl (teq hc33).2 k) ?_
    show own_Fin _ _ _ _ _ _ _ (T31.setTop (mkF m 290 #[.val (.int p0), .val (.long q1), .second, .val (.int p2), .val (.int p3), .val (.int z1), .val (.ref b2), .val (.int ((p2 &&& (255 : Int32)) % (9 : Int32))), .val (.int z18), .val (.int z30), .val (.int z32)] []))
    refine own_go (fun _ k => XS.iconst X31.here hx rfl (hb hby at_290) k) ?_
    show own_Fin _ _ _ _ _ _ _ (T31.setTop (mkF m 291 #[.val (.int p0), .val (.long q1), .second, .val (.int p2), .val (.int p3), .val (.int z1), .val (.ref b2), .val (.int ((p2 &&& (255 : Int32)) % (9 : Int32))), .val (.int z18), .val (.int z30), .val (.int z32)] [(.int (1 : Int32))]))
    refine own_go (fun _ k => XS.goto X31.here hx rfl (pc0 := 291) (pc' := 295) rfl (hb hby at_291) (by decide) (by decide) k) ?_
    show own_Fin _ _ _ _ _ _ _ (T31.setTop (mkF m 295 #[.val (.int p0), .val (.long q1), .second, .val (.int p2), .val (.int p3), .val (.int z1), .val (.ref b2), .val (.int ((p2 &&& (255 : Int32)) % (9 : Int32))), .val (.int z18), .val (.int z30), .val (.int z32)] [(.int (1 : Int32))]))
    refine own_ret X31 hx hlk Bd.returns rfl (Or.inl ⟨rfl, by simp, _, rfl⟩) (hb hby at_295) (Nat.le_of_ble_eq_true rfl) (Nat.le_of_ble_eq_true rfl) ?_
    exact ⟨(own_lf_own_f0_1 (p0 := p0) (q1 := q1) (p2 := p2) (p3 := p3) hz1 hf3 hf5 hf7 hf9 hf11 hf13 hf15 hf17 hz18 hz21 hz24 hz27 hz30 hz32 hc33), N31, trivial⟩
  · refine own_go (fun _ k => XS.icmpYes X31.here hx rfl (pc0 := 287) (pc' := 294) rfl (hb hby at_287) rfl (feq hc33).2 (by decide) (by decide) k) ?_
    show own_Fin _ _ _ _ _ _ _ (T31.setTop (mkF m 294 #[.val (.int p0), .val (.long q1), .second, .val (.int p2), .val (.int p3), .val (.int z1), .val (.ref b2), .val (.int ((p2 &&& (255 : Int32)) % (9 : Int32))), .val (.int z18), .val (.int z30), .val (.int z32)] []))
    refine own_go (fun _ k => XS.iconst X31.here hx rfl (hb hby at_294) k) ?_
    show own_Fin _ _ _ _ _ _ _ (T31.setTop (mkF m 295 #[.val (.int p0), .val (.long q1), .second, .val (.int p2), .val (.int p3), .val (.int z1), .val (.ref b2), .val (.int ((p2 &&& (255 : Int32)) % (9 : Int32))), .val (.int z18), .val (.int z30), .val (.int z32)] [(.int (0 : Int32))]))
    refine own_ret X31 hx hlk Bd.returns rfl (Or.inl ⟨rfl, by simp, _, rfl⟩) (hb hby at_295) (Nat.le_of_ble_eq_true rfl) (Nat.le_of_ble_eq_true rfl) ?_
    exact ⟨(own_lf_own_f0_2 (p0 := p0) (q1 := q1) (p2 := p2) (p3 := p3) hz1 hf3 hf5 hf7 hf9 hf11 hf13 hf15 hf17 hz18 hz21 hz24 hz27 hz30 hz32 hc33), N31, trivial⟩
theorem own_mono8 (f : Nat → Int32) (h : ∀ i, i < 7 → (f i).toInt ≤ (f (i + 1)).toInt) : ∀ i j, i ≤ j → j < 8 → (f i).toInt ≤ (f j).toInt := by
  intro i j hij
  induction j with
  | zero => intro _; rw [show i = 0 from by omega]; exact Int.le_refl _
  | succ j ih =>
    intro hj
    by_cases q : i = j + 1
    · rw [q]; exact Int.le_refl _
    · have a := ih (by omega) (by omega)
      have b := h j (by omega)
      omega
theorem own_plain (p0 : Int32) (q1 : Int64) (p2 p3 : Int32) : own_f0 p0 q1 p2 p3 = 1 := by
  have hr := own_rr p2
  have sm := c_maskL (own_lushr q1 40) 31 5 (by decide) (by decide)
  rw [show ((2 ^ 5 : Nat) : Int) = 32 from by decide] at sm
  have sl := c_l2i (own_lushr q1 40 &&& 31)
  have sr := rng32 (own_lushr q1 40 &&& 31).toInt32
  simp only [own_f0]
  generalize hsz : (own_lushr q1 (40 : Int32) &&& (31 : Int64)).toInt32 = s at *
  have hs : 0 ≤ s.toInt ∧ s.toInt ≤ 31 := by omega
  clear hsz
  generalize ((p2 &&& (255 : Int32)) % (9 : Int32)) + (((own_iushr p2 (8 : Int32)) &&& (255 : Int32)) % ((9 : Int32) - ((p2 &&& (255 : Int32)) % (9 : Int32)))) = b at *
  generalize (p2 &&& (255 : Int32)) % (9 : Int32) = a at *
  generalize h0 : own_set (fun _ => (0 : Int32)) (0 : Int32) p0 = f0
  generalize h1 : own_set f0 (1 : Int32) (own_f1 (f0 0) q1 (0 : Int32) s) = f1
  generalize h2 : own_set f1 (2 : Int32) (own_f1 (f1 1) q1 (1 : Int32) s) = f2
  generalize h3 : own_set f2 (3 : Int32) (own_f1 (f2 2) q1 (2 : Int32) s) = f3
  generalize h4 : own_set f3 (4 : Int32) (own_f1 (f3 3) q1 (3 : Int32) s) = f4
  generalize h5 : own_set f4 (5 : Int32) (own_f1 (f4 4) q1 (4 : Int32) s) = f5
  generalize h6 : own_set f5 (6 : Int32) (own_f1 (f5 5) q1 (5 : Int32) s) = f6
  generalize h7 : own_set f6 (7 : Int32) (own_f1 (f6 6) q1 (6 : Int32) s) = f7
  have S : ∀ (g : Nat → Int32) (j v : Int32) (k : Nat), own_set g j v k = if k = j.toNatClampNeg then v else g k := fun _ _ _ _ => rfl
  have n1 : (1 : Int32).toNatClampNeg = 1 := rfl
  have n2 : (2 : Int32).toNatClampNeg = 2 := rfl
  have n3 : (3 : Int32).toNatClampNeg = 3 := rfl
  have n4 : (4 : Int32).toNatClampNeg = 4 := rfl
  have n5 : (5 : Int32).toNatClampNeg = 5 := rfl
  have n6 : (6 : Int32).toNatClampNeg = 6 := rfl
  have n7 : (7 : Int32).toNatClampNeg = 7 := rfl
  have u1 : ∀ k, f1 k = if k = 1 then own_f1 (f0 0) q1 0 s else f0 k := fun k => by rw [← h1, S, n1]
  have u2 : ∀ k, f2 k = if k = 2 then own_f1 (f1 1) q1 1 s else f1 k := fun k => by rw [← h2, S, n2]
  have u3 : ∀ k, f3 k = if k = 3 then own_f1 (f2 2) q1 2 s else f2 k := fun k => by rw [← h3, S, n3]
  have u4 : ∀ k, f4 k = if k = 4 then own_f1 (f3 3) q1 3 s else f3 k := fun k => by rw [← h4, S, n4]
  have u5 : ∀ k, f5 k = if k = 5 then own_f1 (f4 4) q1 4 s else f4 k := fun k => by rw [← h5, S, n5]
  have u6 : ∀ k, f6 k = if k = 6 then own_f1 (f5 5) q1 5 s else f5 k := fun k => by rw [← h6, S, n6]
  have u7 : ∀ k, f7 k = if k = 7 then own_f1 (f6 6) q1 6 s else f6 k := fun k => by rw [← h7, S, n7]
  have st : ∀ i, i < 7 → (f7 i).toInt ≤ (f7 (i + 1)).toInt := by
    intro i hi
    have N := fun p i => own_next p q1 i s hs
    rcases (show i = 0 ∨ i = 1 ∨ i = 2 ∨ i = 3 ∨ i = 4 ∨ i = 5 ∨ i = 6 by omega) with q | q | q | q | q | q | q <;> subst q
    · simpa [u1, u2, u3, u4, u5, u6, u7] using N (f0 0) 0
    · simpa [u1, u2, u3, u4, u5, u6, u7] using N (f1 1) 1
    · simpa [u1, u2, u3, u4, u5, u6, u7] using N (f2 2) 2
    · simpa [u1, u2, u3, u4, u5, u6, u7] using N (f3 3) 3
    · simpa [u1, u2, u3, u4, u5, u6, u7] using N (f4 4) 4
    · simpa [u1, u2, u3, u4, u5, u6, u7] using N (f5 5) 5
    · simpa [u1, u2, u3, u4, u5, u6, u7] using N (f6 6) 6
  obtain ⟨r, e, a1, a2, a3, a4⟩ := own_lt8 f7 p3 (own_mono8 f7 st) _ a b (Nat.le_refl _) (by omega) (by omega) (by omega)
  have T := fun k i hi => own_term f7 p3 a b r k i hi a1 a2 a3 a4
  have t0 := T 0 0 (by decide); have t1 := T 1 1 (by decide); have t2 := T 2 2 (by decide); have t3 := T 3 3 (by decide)
  have t4 := T 4 4 (by decide); have t5 := T 5 5 (by decide); have t6 := T 6 6 (by decide); have t7 := T 7 7 (by decide)
  clear T
  obtain ⟨A, hA⟩ : ∃ A : Nat, a.toInt = A := ⟨a.toInt.toNat, by omega⟩
  have s1 := own_sum8 r (by omega)
  have s2 := own_sum8 A (by omega)
  simp only [hA, Int.ofNat_lt] at t0 t1 t2 t3 t4 t5 t6 t7
  apply if_pos
  apply Int32.toInt_inj.mp
  rw [e]
  generalize own_f3 0 a b p3 f7 = x0 at *
  generalize own_f3 1 a b p3 f7 = x1 at *
  generalize own_f3 2 a b p3 f7 = x2 at *
  generalize own_f3 3 a b p3 f7 = x3 at *
  generalize own_f3 4 a b p3 f7 = x4 at *
  generalize own_f3 5 a b p3 f7 = x5 at *
  generalize own_f3 6 a b p3 f7 = x6 at *
  generalize own_f3 7 a b p3 f7 = x7 at *
  have c0 := c_iadd a x0
  have c1 := c_iadd (a + x0) x1
  have c2 := c_iadd (a + x0 + x1) x2
  have c3 := c_iadd (a + x0 + x1 + x2) x3
  have c4 := c_iadd (a + x0 + x1 + x2 + x3) x4
  have c5 := c_iadd (a + x0 + x1 + x2 + x3 + x4) x5
  have c6 := c_iadd (a + x0 + x1 + x2 + x3 + x4 + x5) x6
  have c7 := c_iadd (a + x0 + x1 + x2 + x3 + x4 + x5 + x6) x7
  have R := rng32 (a + x0 + x1 + x2 + x3 + x4 + x5 + x6 + x7)
  have tot : x0.toInt + x1.toInt + x2.toInt + x3.toInt + x4.toInt + x5.toInt + x6.toInt + x7.toInt = r - A := by
    rw [t0, t1, t2, t3, t4, t5, t6, t7, ← s1, ← s2]
    generalize (if 0 < r then (1 : Int) else 0) = y0
    generalize (if 1 < r then (1 : Int) else 0) = y1
    generalize (if 2 < r then (1 : Int) else 0) = y2
    generalize (if 3 < r then (1 : Int) else 0) = y3
    generalize (if 4 < r then (1 : Int) else 0) = y4
    generalize (if 5 < r then (1 : Int) else 0) = y5
    generalize (if 6 < r then (1 : Int) else 0) = y6
    generalize (if 7 < r then (1 : Int) else 0) = y7
    generalize (if 0 < A then (1 : Int) else 0) = w0
    generalize (if 1 < A then (1 : Int) else 0) = w1
    generalize (if 2 < A then (1 : Int) else 0) = w2
    generalize (if 3 < A then (1 : Int) else 0) = w3
    generalize (if 4 < A then (1 : Int) else 0) = w4
    generalize (if 5 < A then (1 : Int) else 0) = w5
    generalize (if 6 < A then (1 : Int) else 0) = w6
    generalize (if 7 < A then (1 : Int) else 0) = w7
    omega
  clear t0 t1 t2 t3 t4 t5 t6 t7 s1 s2
  omega

set_option maxRecDepth 65536 in
set_option maxHeartbeats 40000000 in
theorem comes_1 {Post : Tables → Env → Array Value → State → Outcome → State → Prop} (hpost : ∀ tb e args s v u, (limb_1_1.after args s (.returned v) u = true ∧ limb_1_2.after args s (.returned v) u = true ∧ True) → FrameEnd s (.returned v) u (Jvm.fieldLocs frame_1_writes args s ++ Jvm.arrayLocs frame_1_arrays args s ++ Jvm.staticLocs frame_1_statics s) 16 128 → Post tb e args s (.returned v) u) :
    ArmFor flags0 classFile x code maxLocals ret World_1 tables_1 room_1 Calls_1 rest_1 Pre_1 Post := by
  intro l hfl _ _ p e ha hc hk s m args below hf hA hF happ hP
  obtain ⟨hcalls, hrest, hpre⟩ := hP
  obtain ⟨-, -, -, hnamed, -, -, -, hat⟩ := (Spec.applies_iff hf).mp happ
  obtain ⟨hg, hn⟩ := and_e (Cond.before_iff.mp (show (Jvm.Cond.and given_1 narrow_1).before args s = true from hpre))
  obtain ⟨g1, g2⟩ := and_e hg
  obtain ⟨g3, g4⟩ := and_e g2
  obtain ⟨g5, g6⟩ := and_e g4
  obtain ⟨g7, g8⟩ := and_e g6
  obtain ⟨w0, w1, w2, w3, rfl⟩ : ∃ w0 w1 w2 w3 : Value, args = #[w0, w1, w2, w3] := by
    have hs : args.size = 4 := by simpa [Cond.value, given_1] using g1
    obtain ⟨L⟩ := args
    match L, hs with
    | [w0, w1, w2, w3], _ => exact ⟨w0, w1, w2, w3, rfl⟩
  have hw := fun d (hd : d ∈ tables_1) => atoms_spec (ws := Jvm.Cond.code x code maxLocals ret :: tables_1) hat d (List.mem_cons_of_mem _ hd)
  have hfit : Fit s := fun {y c} hc i hi => by
    obtain ⟨ha, rfl⟩ := Array.getElem?_eq_some_iff.mp hc
    have q := List.all_eq_true.mp ((Array.all_eq_true_iff_forall_mem.mp hF) _ (Array.getElem_mem ha)) i (List.mem_range.mpr hi)
    simpa [Array.getElem?_eq_getElem hi] using q
  obtain ⟨i0, ei0⟩ := is_v g3
  obtain rfl : w0 = (.int i0) := Option.some.inj ei0
  obtain ⟨i1, ei1⟩ := isL_v g5
  obtain rfl : w1 = (.long i1) := Option.some.inj ei1
  obtain ⟨i2, ei2⟩ := is_v g7
  obtain rfl : w2 = (.int i2) := Option.some.inj ei2
  obtain ⟨i3, ei3⟩ := is_v g8
  obtain rfl : w3 = (.int i3) := Option.some.inj ei3
  obtain ⟨n, o, h1, h2, h3, _, L, rfl, ⟨rfl, N, hrest'⟩, hq⟩ := rm0 l s _ hw tables_1 i0 i1 i2 i3 s.heap s.heap.size (Nat.le_refl _) p e ha hc hk s m _ below hf ((Spec.applies_iff_loose hf).mp happ).1 ⟨rfl, State.Warmed39.refl s, rfl⟩ trivial
  refine ⟨n, _, h1, h2, h3, hpost _ _ _ _ _ _ ⟨Cond.after_iff.mpr rfl, Cond.after_iff.mpr (eq_i res_at (Term.int_eval (1)) (congrArg Value.int (own_plain i0 i1 i2 i3))), trivial⟩ ⟨hq.1, hq.2.1, (hq.2.2.sift fun y hy => Or.inr (N y hy)).mono (by decide) (by decide)⟩⟩
theorem main_1_1 : Claimed_1_1 := comes_1 fun _ _ _ _ _ _ h hF => ⟨h.1, hF⟩
theorem main_1_2 : Claimed_1_2 := comes_1 fun _ _ _ _ _ _ h hF => ⟨h.2.1, hF⟩
end Jvm.Pilot.@@N@@
namespace Jvm.Pilot.@@N@@
open Jvm Jvm.ClassFile Sem Op Lib Jvm.Free Jvm.Stand Jvm.Pilot.@@N@@.Jvm.D
/-! MADE BY PROGRAM (witnessworld.py) out of the Statement's table words and the real class files: 10 classes; the members and pool entries that the words name. The judged class is class 1, her method 1. -/
namespace start1
open Jvm.ClassFile
def u (s : String) : CpInfo := .utf8 (stringToUtf16 s)
/-- a pool by its gaps: so many unusable entries, then the entry; so many at the end -/
def gap : Nat → List CpInfo → List CpInfo
  | 0, r => r
  | n + 1, r => .unusable :: gap n r
def poolList (es : List (Nat × CpInfo)) (last : Nat) : List CpInfo := es.foldr (fun e r => gap e.1 (e.2 :: r)) (gap last [])
def pool (es : List (Nat × CpInfo)) (last : Nat) : Array CpInfo := ⟨poolList es last⟩
def fileOf (pool : Array CpInfo) (this : Nat) (attrs : Array Attribute := #[]) (ms : Array MethodInfo := #[]) (fl : Nat := 33) (sup : Nat := 0) (ifs : Array Nat := #[]) (fds : Array FieldInfo := #[]) : ClassFile where
  minorVersion := 0
  majorVersion := 65
  constantPool := pool
  accessFlags := fl
  thisClass := this
  superClass := sup
  interfaces := ifs
  fields := fds
  methods := ms
  attributes := attrs
def plain (name : String) (sup : Option ClassId) : Class where
  name := name
  kind := .ordinary
  loader := none
  accessFlags := 33
  super := sup
  interfaces := #[]
  cf := none
  fields := #[]
  methods := #[]
  instanceTypes := #[]
  staticTypes := #[]
  resolved := #[]
  callSites := []
  init := .initialized
  statics := none
  mirror := none

def pool0 : Array CpInfo := pool [(5, u "<init>"), (0, u "()V"), (1, .class_ 10), (1, u "java/lang/Object")] 113

def k0m0 : Method := { name := "<init>", desc := "()V", sig := { parameters := [], returnType := none }, accessFlags := 1, code := none }
/-- java/lang/Object -/
def k0 : Class := { plain "java/lang/Object" none with
  accessFlags := 33
  interfaces := #[]
  cf := some (fileOf pool0 8 #[] #[{ accessFlags := 1, nameIndex := 5, descriptorIndex := 6, attributes := #[] }] 33 0 #[] #[])
  fields := #[]
  methods := #[k0m0]
  instanceTypes := #[]
  staticTypes := #[]
  resolved := Array.replicate 124 none
  statics := none }

def pool1 : Array CpInfo := pool [(2, .class_ 4), (1, u "java/lang/Object"), (0, u "<init>"), (0, u "()V"), (0, .long 31), (1, .methodref 10 11), (0, .class_ 12), (0, .nameAndType 13 14), (0, u "com/example/reachability/reachability/CandidateListFirstAtLeastPinLaw"), (0, u "next"), (0, u "(IJII)I"), (0, .methodref 10 16), (0, .nameAndType 17 18), (0, u "lt"), (0, u "([IIIII)I"), (0, .methodref 20 21), (0, .class_ 22), (0, .nameAndType 23 24), (0, u "com/example/reachability/reachability/CandidateList"), (0, u "firstAtLeast"), (0, u "([IIII)I"), (0, .long 15), (3, .long 2147483647), (1, .methodref 32 33), (0, .class_ 34), (0, .nameAndType 35 36), (0, u "java/lang/Math"), (0, u "min"), (0, u "(JJ)J"), (2, u "law"), (0, u "(IJII)Z")] 5

def k1m0 : Method := { name := "<init>", desc := "()V", sig := { parameters := [], returnType := none }, accessFlags := 1, code := none }
def k1c1 : Code := { maxStack := 7, maxLocals := 11, code := code, exceptionTable := #[], attributes := #[] }
def k1m1 : Method := { name := "law", desc := "(IJII)Z", sig := { parameters := [.int, .long, .int, .int], returnType := some .boolean }, accessFlags := 9, code := some k1c1 }
def k1c2 : Code := { maxStack := 4, maxLocals := 7, code := method_3_code, exceptionTable := #[], attributes := #[] }
def k1m2 : Method := { name := "next", desc := "(IJII)I", sig := { parameters := [.int, .long, .int, .int], returnType := some .int }, accessFlags := 10, code := some k1c2 }
def k1c3 : Code := { maxStack := 2, maxLocals := 5, code := method_4_code, exceptionTable := #[], attributes := #[] }
def k1m3 : Method := { name := "lt", desc := "([IIIII)I", sig := { parameters := [(.array .int), .int, .int, .int, .int], returnType := some .int }, accessFlags := 10, code := some k1c3 }
/-- com/example/reachability/reachability/CandidateListFirstAtLeastPinLaw -/
def k1 : Class := { plain "com/example/reachability/reachability/CandidateListFirstAtLeastPinLaw" (some 0) with
  accessFlags := 49
  interfaces := #[]
  cf := some (fileOf pool1 10 #[] #[{ accessFlags := 1, nameIndex := 5, descriptorIndex := 6, attributes := #[] }, { accessFlags := 9, nameIndex := 39, descriptorIndex := 40, attributes := #[] }, { accessFlags := 10, nameIndex := 13, descriptorIndex := 14, attributes := #[] }, { accessFlags := 10, nameIndex := 17, descriptorIndex := 18, attributes := #[] }] 49 2 #[] #[])
  fields := #[]
  methods := #[k1m0, k1m1, k1m2, k1m3]
  instanceTypes := #[]
  staticTypes := #[]
  resolved := Array.replicate 46 none
  statics := none }

def pool2 : Array CpInfo := pool [(1, .class_ 2), (0, u "java/lang/Math"), (1, .class_ 6), (1, u "java/lang/Object"), (0, u "<init>"), (0, u "()V"), (89, .class_ 100), (1, u "java/lang/Math$RandomNumberGeneratorHolder"), (20, u "(JJ)J"), (50, u "negativeZeroFloatBits"), (0, u "J"), (2, u "negativeZeroDoubleBits"), (24, u "min"), (43, u "$assertionsDisabled"), (0, u "Z"), (91, u "twoToTheDoubleScaleDown"), (0, u "D"), (4, u "twoToTheDoubleScaleUp"), (9, u "E"), (3, u "PI"), (2, u "TAU"), (2, u "DEGREES_TO_RADIANS"), (0, u "RADIANS_TO_DEGREES")] 94

def k2m0 : Method := { name := "<init>", desc := "()V", sig := { parameters := [], returnType := none }, accessFlags := 2, code := none }
def k2c1 : Code := { maxStack := 4, maxLocals := 4, code := jdk_29_method_70_code, exceptionTable := #[], attributes := #[] }
def k2m1 : Method := { name := "min", desc := "(JJ)J", sig := { parameters := [.long, .long], returnType := some .long }, accessFlags := 9, code := some k2c1 }
/-- java/lang/Math -/
def k2 : Class := { plain "java/lang/Math" (some 0) with
  accessFlags := 49
  interfaces := #[]
  cf := some (fileOf pool2 1 #[.nestMembers #[98]] #[{ accessFlags := 2, nameIndex := 7, descriptorIndex := 8, attributes := #[] }, { accessFlags := 9, nameIndex := 201, descriptorIndex := 121, attributes := #[] }] 49 4 #[] #[{ accessFlags := 25, nameIndex := 354, descriptorIndex := 339, attributes := #[] }, { accessFlags := 25, nameIndex := 358, descriptorIndex := 339, attributes := #[] }, { accessFlags := 25, nameIndex := 361, descriptorIndex := 339, attributes := #[] }, { accessFlags := 26, nameIndex := 364, descriptorIndex := 339, attributes := #[] }, { accessFlags := 26, nameIndex := 365, descriptorIndex := 339, attributes := #[] }, { accessFlags := 26, nameIndex := 172, descriptorIndex := 173, attributes := #[] }, { accessFlags := 26, nameIndex := 176, descriptorIndex := 173, attributes := #[] }, { accessFlags := 8, nameIndex := 344, descriptorIndex := 339, attributes := #[] }, { accessFlags := 8, nameIndex := 338, descriptorIndex := 339, attributes := #[] }, { accessFlags := 4120, nameIndex := 245, descriptorIndex := 246, attributes := #[] }])
  fields := #[{ name := "E", type := .double, accessFlags := 25, slot := 0, constantValue := 0 }, { name := "PI", type := .double, accessFlags := 25, slot := 1, constantValue := 0 }, { name := "TAU", type := .double, accessFlags := 25, slot := 2, constantValue := 0 }, { name := "DEGREES_TO_RADIANS", type := .double, accessFlags := 26, slot := 3, constantValue := 0 }, { name := "RADIANS_TO_DEGREES", type := .double, accessFlags := 26, slot := 4, constantValue := 0 }, { name := "negativeZeroFloatBits", type := .long, accessFlags := 26, slot := 5, constantValue := 0 }, { name := "negativeZeroDoubleBits", type := .long, accessFlags := 26, slot := 6, constantValue := 0 }, { name := "twoToTheDoubleScaleUp", type := .double, accessFlags := 8, slot := 7, constantValue := 0 }, { name := "twoToTheDoubleScaleDown", type := .double, accessFlags := 8, slot := 8, constantValue := 0 }, { name := "$assertionsDisabled", type := .boolean, accessFlags := 4120, slot := 9, constantValue := 0 }]
  methods := #[k2m0, k2m1]
  instanceTypes := #[]
  staticTypes := #[.double, .double, .double, .double, .double, .long, .long, .double, .double, .boolean]
  resolved := Array.replicate 460 none
  statics := none }

def pool3 : Array CpInfo := pool [(2, .class_ 4), (1, u "java/lang/Object"), (3, .class_ 10), (1, u "com/example/reachability/reachability/CandidateList"), (0, u "search"), (0, u "I"), (2, u "runs"), (0, u "[I"), (2, u "numbers"), (2, u "elements"), (2, u "foundIn"), (2, u "next"), (2, u "found"), (2, u "bucketShift"), (9, u "bucketStart"), (17, u "foundCount"), (2, u "firstOnly"), (0, u "Z"), (2, u "forRuns"), (2, u "runsLength"), (29, u "firstAtLeast"), (0, u "([IIII)I")] 18

def k3c0 : Code := { maxStack := 2, maxLocals := 7, code := prog_2_method_20_code, exceptionTable := #[], attributes := #[] }
def k3m0 : Method := { name := "firstAtLeast", desc := "([IIII)I", sig := { parameters := [(.array .int), .int, .int, .int], returnType := some .int }, accessFlags := 8, code := some k3c0 }
/-- com/example/reachability/reachability/CandidateList -/
def k3 : Class := { plain "com/example/reachability/reachability/CandidateList" (some 0) with
  accessFlags := 32
  interfaces := #[]
  cf := some (fileOf pool3 8 #[] #[{ accessFlags := 8, nameIndex := 102, descriptorIndex := 103, attributes := #[] }] 32 2 #[] #[{ accessFlags := 18, nameIndex := 19, descriptorIndex := 16, attributes := #[] }, { accessFlags := 18, nameIndex := 22, descriptorIndex := 16, attributes := #[] }, { accessFlags := 18, nameIndex := 34, descriptorIndex := 12, attributes := #[] }, { accessFlags := 18, nameIndex := 44, descriptorIndex := 16, attributes := #[] }, { accessFlags := 18, nameIndex := 25, descriptorIndex := 16, attributes := #[] }, { accessFlags := 2, nameIndex := 11, descriptorIndex := 12, attributes := #[] }, { accessFlags := 18, nameIndex := 28, descriptorIndex := 16, attributes := #[] }, { accessFlags := 18, nameIndex := 31, descriptorIndex := 16, attributes := #[] }, { accessFlags := 2, nameIndex := 62, descriptorIndex := 12, attributes := #[] }, { accessFlags := 2, nameIndex := 65, descriptorIndex := 66, attributes := #[] }, { accessFlags := 2, nameIndex := 69, descriptorIndex := 66, attributes := #[] }, { accessFlags := 2, nameIndex := 15, descriptorIndex := 16, attributes := #[] }, { accessFlags := 2, nameIndex := 72, descriptorIndex := 12, attributes := #[] }])
  fields := #[{ name := "numbers", type := (.array .int), accessFlags := 18, slot := 0, constantValue := 0 }, { name := "elements", type := (.array .int), accessFlags := 18, slot := 1, constantValue := 0 }, { name := "bucketShift", type := .int, accessFlags := 18, slot := 2, constantValue := 0 }, { name := "bucketStart", type := (.array .int), accessFlags := 18, slot := 3, constantValue := 0 }, { name := "foundIn", type := (.array .int), accessFlags := 18, slot := 4, constantValue := 0 }, { name := "search", type := .int, accessFlags := 2, slot := 5, constantValue := 0 }, { name := "next", type := (.array .int), accessFlags := 18, slot := 6, constantValue := 0 }, { name := "found", type := (.array .int), accessFlags := 18, slot := 7, constantValue := 0 }, { name := "foundCount", type := .int, accessFlags := 2, slot := 8, constantValue := 0 }, { name := "firstOnly", type := .boolean, accessFlags := 2, slot := 9, constantValue := 0 }, { name := "forRuns", type := .boolean, accessFlags := 2, slot := 10, constantValue := 0 }, { name := "runs", type := (.array .int), accessFlags := 2, slot := 11, constantValue := 0 }, { name := "runsLength", type := .int, accessFlags := 2, slot := 12, constantValue := 0 }]
  methods := #[k3m0]
  instanceTypes := #[(.array .int), (.array .int), .int, (.array .int), (.array .int), .int, (.array .int), (.array .int), .int, .boolean, .boolean, (.array .int), .int]
  staticTypes := #[]
  resolved := Array.replicate 122 none
  statics := none }

def pool4 : Array CpInfo := pool [(1, u "java/lang/Cloneable"), (0, .class_ 1), (0, u "java/lang/Object"), (0, .class_ 3)] 3

/-- java/lang/Cloneable -/
def k4 : Class := { plain "java/lang/Cloneable" (some 0) with
  accessFlags := 1537
  interfaces := #[]
  cf := some (fileOf pool4 2 #[] #[] 1537 4 #[] #[])
  fields := #[]
  methods := #[]
  instanceTypes := #[]
  staticTypes := #[]
  resolved := Array.replicate 8 none
  statics := none }

def pool5 : Array CpInfo := pool [(1, u "java/io/Serializable"), (0, .class_ 1), (0, u "java/lang/Object"), (0, .class_ 3)] 3

/-- java/io/Serializable -/
def k5 : Class := { plain "java/io/Serializable" (some 0) with
  accessFlags := 1537
  interfaces := #[]
  cf := some (fileOf pool5 2 #[] #[] 1537 4 #[] #[])
  fields := #[]
  methods := #[]
  instanceTypes := #[]
  staticTypes := #[]
  resolved := Array.replicate 8 none
  statics := none }

/-- the primitive byte -/
def k6 : Class := { plain "byte" none with kind := .primitive 'B', accessFlags := 0x411 }
/-- [B -/
def k7 : Class := { plain "[B" (some 0) with kind := .array 6 .byte, interfaces := #[4, 5], accessFlags := 1041 }

/-- the primitive int -/
def k8 : Class := { plain "int" none with kind := .primitive 'I', accessFlags := 0x411 }
/-- [I -/
def k9 : Class := { plain "[I" (some 0) with kind := .array 8 .int, interfaces := #[4, 5], accessFlags := 1041 }

def heap : Heap := #[]
def classes : Array Class := #[k0, k1, k2, k3, k4, k5, k6, k7, k8, k9]
def interned : List (Array UInt16 × Addr) := []
def slotsUsed : Nat := 0
def theMethod : MethodId := ⟨1, 1⟩
def args0 : Array Value := #[.int 2, .long 6, .int 7, .int 7]
def aboutOver (below : List Frame) : State where
  vm := { classes := classes, interned := interned.toArray }
  heap := heap
  slotsUsed := slotsUsed
  threads := #[{ frames := .invoking theMethod args0 :: below }]
def below0 : List Frame := [.native { method := ⟨0, 0⟩, args := #[] }]
def about1 : State := aboutOver below0
def p0 : Program := .bare "" "" ""
def e0 : Env := launch0.env 0 0 0
theorem w_frames : about1.frames = Frame.invoking theMethod args0 :: below0 := rfl
set_option maxRecDepth 65536 in
theorem w_args : argsFit about1.vm theMethod args0 = true := by decide +kernel
set_option maxRecDepth 65536 in
theorem w_heap : heapFits about1 = true := by decide +kernel
set_option maxRecDepth 65536 in
theorem w_runnable : about1.curStatus? = some .runnable := by decide +kernel
set_option maxRecDepth 65536 in
theorem w_alone : about1.alone = true := by decide +kernel
set_option maxRecDepth 65536 in
theorem w_named : about1.methodNamed? x = some theMethod := by decide +kernel
set_option maxRecDepth 65536 in
theorem w_hears : about1.hears theMethod below0 = true := by decide +kernel
set_option maxRecDepth 65536 in
theorem w_ripe : about1.ripe theMethod args0 below0 = true := by decide +kernel
theorem w_running : about1.status = .running := rfl
set_option maxRecDepth 65536 in
theorem w_room : about1.hasRoom e0.platform room_1 = true :=
  launch0.hasRoom_least _ room_1 (by decide +kernel) (by decide +kernel) (by decide +kernel) (by decide +kernel) (by decide +kernel) (by decide +kernel)
theorem allAtoms_all (ts : List Jvm.Cond) (a : Array Jvm.Value) (st : Jvm.State) : (allAtoms ts).before a st = ts.all (fun c => c.before a st) := by
  induction ts with
  | nil => rfl
  | cons c t ih =>
    show (Jvm.Cond.and c (allAtoms t)).before a st = _
    rw [Jvm.Cond.before_and, ih, List.all_cons]
def words1 : List Jvm.Cond := Jvm.Cond.code x code maxLocals ret :: tables_1
/-- a 'code' word, met by the world's own term for the bytes: nothing is compared byte by byte -/
theorem code_word {y : MethodName} {bytes : ByteArray} {mx : Nat} {rt : Option FieldType} {a : Array Value} {s : State} {m : MethodId} {meth : Method} {c : Code} (h1 : s.methodNamed? y = some m) (h2 : s.vm.method? m = some meth) (h3 : meth.code = some c) (h4 : c.code = bytes)
    (h5 : (c.maxLocals == mx && c.exceptionTable.isEmpty && decide (c.maxStack ≤ mostOperands) && decide (meth.sig.returnType = rt) && !meth.locks && decide (parseMethodDescriptor y.desc = some meth.sig)) = true) : (Jvm.Cond.code y bytes mx rt).before a s = true := by
  simp only [Bool.and_eq_true, beq_iff_eq, Bool.not_eq_true', decide_eq_true_eq] at h5
  obtain ⟨⟨⟨⟨⟨g1, g2⟩, g3⟩, g4⟩, g5⟩, g6⟩ := h5
  simp [Cond.before, Cond.holds, Cond.value, h1, h2, h3, h4, g1, g2, g3, g4, g5, g6]
def isCode : Jvm.Cond → Bool
  | .code _ _ _ _ => true
  | _ => false
theorem all_split {L : List Jvm.Cond} {P : Jvm.Cond → Bool} (h1 : L.all (fun c => isCode c || P c) = true) (h2 : ∀ c ∈ L.filter isCode, P c = true) : L.all P = true := by
  refine List.all_eq_true.mpr fun c hc => ?_
  have h := List.all_eq_true.mp h1 c hc
  rcases Bool.eq_false_or_eq_true (isCode c) with hi | hi
  · exact h2 c (List.mem_filter.mpr ⟨hc, hi⟩)
  · simpa [hi] using h
set_option maxRecDepth 65536 in
theorem w_c0 : (Jvm.Cond.code x code maxLocals ret).before args0 about1 = true := code_word (m := ⟨1, 1⟩) (meth := k1m1) (c := k1c1) (by decide +kernel) rfl rfl rfl (by decide +kernel)
set_option maxRecDepth 65536 in
theorem w_c1 : (Jvm.Cond.code ({ cls := "com/example/reachability/reachability/CandidateListFirstAtLeastPinLaw", name := "next", desc := "(IJII)I" } : Jvm.MethodName) method_3_code (7 : Nat) (Option.some Jvm.ClassFile.FieldType.int)).before args0 about1 = true := code_word (m := ⟨1, 2⟩) (meth := k1m2) (c := k1c2) (by decide +kernel) rfl rfl rfl (by decide +kernel)
set_option maxRecDepth 65536 in
theorem w_c2 : (Jvm.Cond.code ({ cls := "java/lang/Math", name := "min", desc := "(JJ)J" } : Jvm.MethodName) jdk_29_method_70_code (4 : Nat) (Option.some Jvm.ClassFile.FieldType.long)).before args0 about1 = true := code_word (m := ⟨2, 1⟩) (meth := k2m1) (c := k2c1) (by decide +kernel) rfl rfl rfl (by decide +kernel)
set_option maxRecDepth 65536 in
theorem w_c3 : (Jvm.Cond.code ({ cls := "com/example/reachability/reachability/CandidateListFirstAtLeastPinLaw", name := "lt", desc := "([IIIII)I" } : Jvm.MethodName) method_4_code (5 : Nat) (Option.some Jvm.ClassFile.FieldType.int)).before args0 about1 = true := code_word (m := ⟨1, 3⟩) (meth := k1m3) (c := k1c3) (by decide +kernel) rfl rfl rfl (by decide +kernel)
set_option maxRecDepth 65536 in
theorem w_c4 : (Jvm.Cond.code ({ cls := "com/example/reachability/reachability/CandidateList", name := "firstAtLeast", desc := "([IIII)I" } : Jvm.MethodName) prog_2_method_20_code (7 : Nat) (Option.some Jvm.ClassFile.FieldType.int)).before args0 about1 = true := code_word (m := ⟨3, 0⟩) (meth := k3m0) (c := k3c0) (by decide +kernel) rfl rfl rfl (by decide +kernel)
def codes1 : List Jvm.Cond := [Jvm.Cond.code x code maxLocals ret, Jvm.Cond.code ({ cls := "com/example/reachability/reachability/CandidateListFirstAtLeastPinLaw", name := "next", desc := "(IJII)I" } : Jvm.MethodName) method_3_code (7 : Nat) (Option.some Jvm.ClassFile.FieldType.int), Jvm.Cond.code ({ cls := "java/lang/Math", name := "min", desc := "(JJ)J" } : Jvm.MethodName) jdk_29_method_70_code (4 : Nat) (Option.some Jvm.ClassFile.FieldType.long), Jvm.Cond.code ({ cls := "com/example/reachability/reachability/CandidateListFirstAtLeastPinLaw", name := "lt", desc := "([IIIII)I" } : Jvm.MethodName) method_4_code (5 : Nat) (Option.some Jvm.ClassFile.FieldType.int), Jvm.Cond.code ({ cls := "com/example/reachability/reachability/CandidateList", name := "firstAtLeast", desc := "([IIII)I" } : Jvm.MethodName) prog_2_method_20_code (7 : Nat) (Option.some Jvm.ClassFile.FieldType.int)]
set_option maxRecDepth 65536 in
theorem codes_eq : words1.filter isCode = codes1 := rfl
theorem w_codes : ∀ c ∈ words1.filter isCode, c.before args0 about1 = true := by
  rw [codes_eq]
  intro c hc
  simp only [codes1, List.mem_cons, List.not_mem_nil, or_false] at hc
  rcases hc with rfl | rfl | rfl | rfl | rfl
  · exact w_c0
  · exact w_c1
  · exact w_c2
  · exact w_c3
  · exact w_c4
set_option maxRecDepth 65536 in
theorem w_t1 : words1.all (fun c => isCode c || c.before args0 about1) = true := by decide +kernel
theorem w_tables : (allAtoms (Jvm.Cond.code x code maxLocals ret :: tables_1)).before args0 about1 = true := by
  rw [allAtoms_all]
  show words1.all (fun c => c.before args0 about1) = true
  refine all_split ?_ w_codes
  rw [w_t1]
set_option maxRecDepth 65536 in
theorem w_case : (Jvm.Cond.and given_1 narrow_1).before args0 about1 = true := by decide +kernel
theorem w_applies : (headSpec (Jvm.Cond.code x code maxLocals ret :: tables_1) room_1).applies x e0.platform about1 = true :=
  (Spec.applies_iff w_frames).mpr ⟨w_running, w_runnable, w_alone, w_named, w_hears, w_ripe, w_room, w_tables⟩
theorem atStart : AtStart classFile x code maxLocals ret World_1 tables_1 room_1 Calls_1 rest_1 Pre_1 launch0 p0 e0 about1 theMethod args0 below0 :=
  ⟨lists_1, trivial, launch0.admits_env _ _ _, launch0.least_env, fairChoices_fair.cas, fairChoices_fair.clock, w_frames, w_args, w_heap, w_applies, trivial, trivial, w_case⟩
end start1
theorem witness_1 : WitnessClaimed_1 := ⟨start1.p0, start1.e0, start1.about1, start1.theMethod, start1.args0, start1.below0, start1.atStart⟩
end Jvm.Pilot.@@N@@
