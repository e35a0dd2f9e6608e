import JvmDerived
import JvmDerived.Pilot.@@N@@Statement
import JvmDerived.Pilot.@@N@@Code
set_option linter.unusedVariables false
set_option linter.unusedSimpArgs false
namespace Jvm.Pilot.@@N@@
open Jvm Jvm.ClassFile Sem Op Lib Jvm.Free Jvm.Stand Jvm.LawKit Jvm.RoadKit Bundle Jvm.Pilot.@@N@@.Jvm.D
/-! own layer: the run from a state ends in a return of which Q holds; one step leads from there to there -/
def own_ishl (x y : Int32) : Int32 := x <<< (y &&& 31)
def own_ishr (x y : Int32) : Int32 := x >>> (y &&& 31)
def own_iushr (x y : Int32) : Int32 := (x.toUInt32 >>> (y &&& 31).toUInt32).toInt32
def own_lshl (x : Int64) (y : Int32) : Int64 := x <<< (y &&& 0x3f).toInt64
def own_lshr (x : Int64) (y : Int32) : Int64 := x >>> (y &&& 0x3f).toInt64
def own_lushr (x : Int64) (y : Int32) : Int64 := (x.toUInt64 >>> (y &&& 0x3f).toInt64.toUInt64).toInt64
def own_i2b (x : Int32) : Int32 := x.toInt8.toInt32
def own_i2c (x : Int32) : Int32 := x.toUInt32.toUInt16.toUInt32.toInt32
def own_Fin (tb : Tables) (e : Env) (below : List Frame) (s : State) (Q : Option Value → Heap → List Loc → Prop) (k n : Nat) (t : State) : Prop :=
  ∃ s₂ o, Steps tb e below t s₂ ∧ s₂.status = .running ∧ Ended s₂ below o ∧ ∃ v L, o = .returned v ∧ Q v s₂.heap L ∧ FrameEnd s o s₂ L k n
theorem own_go {tb : Tables} {e : Env} {below : List Frame} {s : State} {Q : Option Value → Heap → List Loc → Prop} {k n : Nat} {t t' : State}
    (h : ∀ target, Steps tb e below t' target → Steps tb e below t target) (q : own_Fin tb e below s Q k n t') : own_Fin tb e below s Q k n t := by
  obtain ⟨s2, o, h1, h2⟩ := q
  exact ⟨s2, o, h _ h1, h2⟩
def own_QP (r : Option Value) (h0 : Heap) (n0 : Nat) (v : Option Value) (h : Heap) (L : List Loc) : Prop := v = r ∧ Fr n0 L ∧ h = h0
section OwnA
variable {p : Program} {l : Launch} {e : Env} {R : Room} {s : State} {m : MethodId} {args : Array Value} {below : List Frame} {meth : Method} {c : Code} {T : State} {locs : List Loc} {cells slots : Nat}
theorem own_mono (X : Stand p l e R s m args below meth c T locs cells slots) {k n : Nat} (hk : cells ≤ k) (hn : slots ≤ n) : Stand p l e R s m args below meth c T locs k n :=
  { X with same := X.same.mono hk hn }
theorem own_ret (X : Stand p l e R s m args below meth c T locs cells slots) (hx : p.tables.exec = Jvm.exec) (hlk : meth.locks = false) {pc : Nat} {Ls : Array Slot} {w : Value} {t : FieldType} {i : Instr} {rest : List Value} (hret : meth.sig.returnType = some t) (hn : narrow t w = w)
    (hi : (i = .ireturn ∧ (t = .int ∨ t = .boolean ∨ t = .byte ∨ t = .char ∨ t = .short) ∧ ∃ z, w = .int z) ∨ (i = .lreturn ∧ t = .long ∧ ∃ z, w = .long z) ∨ (i = .dreturn ∧ t = .double ∧ ∃ z, w = .double z) ∨ (i = .freturn ∧ t = .float ∧ ∃ z, w = .float z) ∨ (i = .areturn ∧ t.isReference = true ∧ w.isRef = true))
    (hd : decode c.code pc = .ok (i, 1)) {Q : Option Value → Heap → List Loc → Prop} {k n : Nat} (hk : cells ≤ k) (hs : slots ≤ n) (hQ : Q (some w) T.heap locs) :
    own_Fin p.tables e below s Q k n (T.setTop (mkF m pc Ls (w :: rest))) := by
  obtain ⟨fs, hr, hrun, hended, hW, hsame⟩ := X.leave (v := some w) (fun h => by rw [hret] at h; cases h) hlk
  exact ⟨_, _, retOut X hx hret hn hi hd hr, hrun, hended, _, _, rfl, hQ, ⟨_, rfl⟩, hW, hsame.mono hk hs⟩
theorem own_retV (X : Stand p l e R s m args below meth c T locs cells slots) (hx : p.tables.exec = Jvm.exec) (hlk : meth.locks = false) {pc : Nat} {Ls : Array Slot} (hret : meth.sig.returnType = none)
    (hd : decode c.code pc = .ok (.return_, 1)) {Q : Option Value → Heap → List Loc → Prop} {k n : Nat} (hk : cells ≤ k) (hs : slots ≤ n) (hQ : Q none T.heap locs) :
    own_Fin p.tables e below s Q k n (T.setTop (mkF m pc Ls [])) := by
  obtain ⟨fs, hr, hrun, hended, hW, hsame⟩ := X.leave (v := none) (fun _ => rfl) hlk
  exact ⟨_, _, X.returnOut hx hret hd hr, hrun, hended, _, _, rfl, hQ, ⟨_, rfl⟩, hW, hsame.mono hk hs⟩
end OwnA
theorem own_irem {tb : Tables} [Ours tb] {e : Env} {below : List Frame} {T target : State} {m : MethodId} {c : Code} {g : JFrame} (h : At T m c below) (hx : tb.exec = Jvm.exec) (hg : g.method = m) {x y : Int32} {rest : List Value} (hd : decode c.code g.pc = .ok (.irem, 1)) (hs : g.stack = .int y :: .int x :: rest) (hy : y ≠ 0)
    (hr : Steps tb e below (T.setTop { g with pc := g.pc + 1, stack := .int (x % y) :: rest }) target) : Steps tb e below (T.setTop g) target :=
  XS.irem h hx hg hd hs hy (by rw [irem_eq_mod x y]; exact hr)
theorem own_lrem {tb : Tables} [Ours tb] {e : Env} {below : List Frame} {T target : State} {m : MethodId} {c : Code} {g : JFrame} (h : At T m c below) (hx : tb.exec = Jvm.exec) (hg : g.method = m) {x y : Int64} {rest : List Value} (hd : decode c.code g.pc = .ok (.lrem, 1)) (hs : g.stack = .long y :: .long x :: rest) (hy : y ≠ 0)
    (hr : Steps tb e below (T.setTop { g with pc := g.pc + 1, stack := .long (x % y) :: rest }) target) : Steps tb e below (T.setTop g) target :=
  XS.lrem h hx hg hd hs hy (by rw [lrem_mod x y]; exact hr)
/-! arrays by a function of the place -/
def own_set {α : Type} (f : Nat → α) (j : Int32) (v : α) : Nat → α := fun i => if i = j.toNatClampNeg then v else f i
def own_Arf (Z : State) (h : Heap) (a : Addr) (ty : FieldType) (n : Int32) (f : Nat → Value) : Prop :=
  ∃ c : Cell, Arr Z h a c ty ∧ c.slots.size = n.toNatClampNeg ∧ ¬ n < 0 ∧ ∀ i, i < n.toNatClampNeg → c.slots[i]? = some (f i)
section OwnB
variable {Z : State} {h h' : Heap} {a b : Addr} {ty : FieldType} {n j : Int32} {f : Nat → Value} {ws : List Addr} {v : Value} {sl : Nat}
theorem own_Arf.lt (F : own_Arf Z h a ty n f) : a < h.size := by obtain ⟨c, A, -⟩ := F; exact A.lt
theorem own_Arf.ext (F : own_Arf Z h a ty n f) (E : Ext h h') : own_Arf Z h' a ty n f := by obtain ⟨c, A, r⟩ := F; exact ⟨c, A.ext E, r⟩
theorem own_Arf.other (F : own_Arf Z h b ty n f) (W : Wr h h' a sl v) (q : b ≠ a) : own_Arf Z h' b ty n f := by obtain ⟨c, A, r⟩ := F; exact ⟨c, A.other W q, r⟩
theorem own_Arf.keep (F : own_Arf Z h a ty n f) (K : Keep h h' ws) (q : a ∉ ws) : own_Arf Z h' a ty n f := by obtain ⟨c, A, r⟩ := F; exact ⟨c, ⟨K.2.1 a c A.1 q, A.2⟩, r⟩
theorem own_Arf.new {k : ClassId} (A : Arr Z h a (newA k ty n) ty) (q : ¬ n < 0) : own_Arf Z h a ty n (fun _ => defaultValue ty) :=
  ⟨_, A, sz_new _ _ _, q, fun i hi => by simp [newA, hi]⟩
theorem own_Arf.wr (F : own_Arf Z h a ty n f) (W : Wr h h' a j.toNatClampNeg v) : own_Arf Z h' a ty n (fun i => if i = j.toNatClampNeg then v else f i) := by
  obtain ⟨c, A, S, q, H⟩ := F
  refine ⟨_, A.same W, by rw [sz_set]; exact S, q, fun i hi => ?_⟩
  by_cases u : i = j.toNatClampNeg
  · subst u; simp [Cell.setSlot, S, hi]
  · simp only [if_neg u, Cell.setSlot]; rw [Array.getElem?_setIfInBounds_ne (Ne.symm u)]; exact H i hi
theorem own_Arf.fn {g : Nat → Value} (F : own_Arf Z h a ty n f) (q : ∀ i, i < n.toNatClampNeg → f i = g i) : own_Arf Z h a ty n g := by
  obtain ⟨c, A, S, q', H⟩ := F
  exact ⟨c, A, S, q', fun i hi => by rw [← q i hi]; exact H i hi⟩
variable {p : Program} {l : Launch} {e : Env} {R : Room} {s : State} {m : MethodId} {args : Array Value} {below : List Frame} {meth : Method} {c : Code} {T : State} {locs : List Loc} {cells slots : Nat} {g : JFrame} {rest : List Value}
theorem own_alen (X : Stand p l e R s m args below meth c T locs cells slots) (hx : p.tables.exec = Jvm.exec) (hZ : Z.Warmed39 s.vm) (eT : T.heap = h) (F : own_Arf Z h a ty n f) (hg : g.method = m) (hs : g.stack = .ref a :: rest) (hd : decode c.code g.pc = .ok (.arraylength, 1)) (target : State)
    (hr : Steps p.tables e below (T.setTop { g with pc := g.pc + 1, stack := .int n :: rest }) target) : Steps p.tables e below (T.setTop g) target := by
  obtain ⟨cl, A, S, q, H⟩ := F
  refine X.arraylength hx (by rw [eT]; exact A.1) (State.isArrayOf_alike hZ.alike A.2.1) hg hs hd _ ?_
  rw [len_of S q]; exact hr
theorem own_iaload (X : Stand p l e R s m args below meth c T locs cells slots) (hx : p.tables.exec = Jvm.exec) (hZ : Z.Warmed39 s.vm) (eT : T.heap = h) (F : own_Arf Z h a .int n f) (hj : ¬ j < 0 ∧ j < n) {x : Int32} (hv : f j.toNatClampNeg = .int x) (hg : g.method = m) (hs : g.stack = .int j :: .ref a :: rest) (hd : decode c.code g.pc = .ok (.iaload, 1)) (target : State)
    (hr : Steps p.tables e below (T.setTop { g with pc := g.pc + 1, stack := .int x :: rest }) target) : Steps p.tables e below (T.setTop g) target := by
  obtain ⟨cl, A, S, q, H⟩ := F
  have hin := inb_of S hj
  exact X.iaload hx (by rw [eT]; exact A.1) (State.isArrayOf_alike hZ.alike A.2.1) A.2.2 hin (by rw [H _ (by rw [← S]; omega), hv]) hg hs hd _ hr
theorem own_baload (X : Stand p l e R s m args below meth c T locs cells slots) (hx : p.tables.exec = Jvm.exec) (hZ : Z.Warmed39 s.vm) (eT : T.heap = h) (F : own_Arf Z h a .byte n f) (hj : ¬ j < 0 ∧ j < n) {x : Int32} (hv : f j.toNatClampNeg = .int x) (hg : g.method = m) (hs : g.stack = .int j :: .ref a :: rest) (hd : decode c.code g.pc = .ok (.baload, 1)) (target : State)
    (hr : Steps p.tables e below (T.setTop { g with pc := g.pc + 1, stack := .int x :: rest }) target) : Steps p.tables e below (T.setTop g) target := by
  obtain ⟨cl, A, S, q, H⟩ := F
  have hin := inb_of S hj
  exact X.baloadBytes hx (by rw [eT]; exact A.1) (State.isArrayOf_alike hZ.alike A.2.1) A.2.2 hin (by rw [H _ (by rw [← S]; omega), hv]) hg hs hd _ hr
theorem own_laload (X : Stand p l e R s m args below meth c T locs cells slots) (hx : p.tables.exec = Jvm.exec) (hZ : Z.Warmed39 s.vm) (eT : T.heap = h) (F : own_Arf Z h a .long n f) (hj : ¬ j < 0 ∧ j < n) {x : Int64} (hv : f j.toNatClampNeg = .long x) (hg : g.method = m) (hs : g.stack = .int j :: .ref a :: rest) (hd : decode c.code g.pc = .ok (.laload, 1)) (target : State)
    (hr : Steps p.tables e below (T.setTop { g with pc := g.pc + 1, stack := .long x :: rest }) target) : Steps p.tables e below (T.setTop g) target := by
  obtain ⟨cl, A, S, q, H⟩ := F
  have hin := inb_of S hj
  exact X.laload hx (by rw [eT]; exact A.1) (State.isArrayOf_alike hZ.alike A.2.1) A.2.2 hin (by rw [H _ (by rw [← S]; omega), hv]) hg hs hd _ hr
theorem own_stI (X : Stand p l e R s m args below meth c T locs cells slots) (hx : p.tables.exec = Jvm.exec) (hZ : Z.Warmed39 s.vm) (eT : T.heap = h) {q : Nat → Int32} (F : own_Arf Z h a .int n (fun i => .int (q i))) (hj : ¬ j < 0 ∧ j < n) {x : Int32} (hg : g.method = m) (hs : g.stack = .int x :: .int j :: .ref a :: rest) (hd : decode c.code g.pc = .ok (.iastore, 1)) :
    ∃ T' h', Stand p l e R s m args below meth c T' (locs ++ [⟨a, j.toNatClampNeg⟩]) cells slots ∧ T'.heap = h' ∧ Wr h h' a j.toNatClampNeg (.int x) ∧ own_Arf Z h' a .int n (fun i => .int (own_set q j x i)) ∧ ∀ target, Steps p.tables e below (T'.setTop { g with pc := g.pc + 1, stack := rest }) target → Steps p.tables e below (T.setTop g) target := by
  obtain ⟨cl, A, S, q1, H⟩ := F
  obtain ⟨T', h', X', e', W, st⟩ := stI X hx hZ eT A (inb_of S hj) hg hs hd
  refine ⟨T', h', X', e', W, (own_Arf.wr ⟨cl, A, S, q1, H⟩ W).fn fun i hi => ?_, st⟩
  simp only [own_set]; split <;> rfl
theorem own_stB (X : Stand p l e R s m args below meth c T locs cells slots) (hx : p.tables.exec = Jvm.exec) (hZ : Z.Warmed39 s.vm) (eT : T.heap = h) {q : Nat → Int32} (F : own_Arf Z h a .byte n (fun i => .int (q i))) (hj : ¬ j < 0 ∧ j < n) {x : Int32} (hg : g.method = m) (hs : g.stack = .int x :: .int j :: .ref a :: rest) (hd : decode c.code g.pc = .ok (.bastore, 1)) :
    ∃ T' h', Stand p l e R s m args below meth c T' (locs ++ [⟨a, j.toNatClampNeg⟩]) cells slots ∧ T'.heap = h' ∧ Wr h h' a j.toNatClampNeg (.int (own_i2b x)) ∧ own_Arf Z h' a .byte n (fun i => .int (own_set q j (own_i2b x) i)) ∧ ∀ target, Steps p.tables e below (T'.setTop { g with pc := g.pc + 1, stack := rest }) target → Steps p.tables e below (T.setTop g) target := by
  obtain ⟨cl, A, S, q1, H⟩ := F
  obtain ⟨T', h', X', e', W, st⟩ := stB X hx hZ eT A (inb_of S hj) hg hs hd
  refine ⟨T', h', X', e', W, (own_Arf.wr ⟨cl, A, S, q1, H⟩ W).fn fun i hi => ?_, st⟩
  simp only [own_set]; split <;> rfl
theorem own_stJ (X : Stand p l e R s m args below meth c T locs cells slots) (hx : p.tables.exec = Jvm.exec) (hZ : Z.Warmed39 s.vm) (eT : T.heap = h) {q : Nat → Int64} (F : own_Arf Z h a .long n (fun i => .long (q i))) (hj : ¬ j < 0 ∧ j < n) {x : Int64} (hg : g.method = m) (hs : g.stack = .long x :: .int j :: .ref a :: rest) (hd : decode c.code g.pc = .ok (.lastore, 1)) :
    ∃ T' h', Stand p l e R s m args below meth c T' (locs ++ [⟨a, j.toNatClampNeg⟩]) cells slots ∧ T'.heap = h' ∧ Wr h h' a j.toNatClampNeg (.long x) ∧ own_Arf Z h' a .long n (fun i => .long (own_set q j x i)) ∧ ∀ target, Steps p.tables e below (T'.setTop { g with pc := g.pc + 1, stack := rest }) target → Steps p.tables e below (T.setTop g) target := by
  obtain ⟨cl, A, S, q1, H⟩ := F
  obtain ⟨T', h', X', e', W, st⟩ := stJ X hx hZ eT A (inb_of S hj) hg hs hd
  refine ⟨T', h', X', e', W, (own_Arf.wr ⟨cl, A, S, q1, H⟩ W).fn fun i hi => ?_, st⟩
  simp only [own_set]; split <;> rfl
end OwnB
def own_QL (r : Option Value) (n0 : Nat) (v : Option Value) (h : Heap) (L : List Loc) : Prop := v = r ∧ Fr n0 L ∧ True
theorem own_ne_arf {Z : State} {h : Heap} {a b : Addr} {C : String} {ty : FieldType} {n : Int32} {f : Nat → Value} {a0 : Array Value} {k : Nat} (F : Exa Z h a C) (wi : (Cond.instantiable C k).before a0 Z = true) (G : own_Arf Z h b ty n f) : a ≠ b := by
  obtain ⟨c, A, -⟩ := G; exact ne_arr F wi A
def own_Two (a b : Slot) : Prop := (a = .unset ∧ b = .unset) ∨ ∃ x : Int64, a = .val (.long x) ∧ b = .second
theorem own_selpriv {s : State} {args args' : Array Value} {y z : MethodName} (hz : z.cls = y.cls) (w : (Cond.selects z.cls z z).before args' s = true) (hp : s.PrivateAt y) (hi : (Cond.instanceMethod y).before args s = true) (hy : y.cls ≠ "java/lang/invoke/MethodHandle" ∧ y.cls ≠ "java/lang/invoke/VarHandle") : (Cond.selects y.cls y y).before args s = true := by
  obtain ⟨c, r, m, h1, h2, h3, h4, k, hk, hki⟩ := Cond.selects_spec w
  have hm := findClass_of_methodNamed h3
  rw [hz] at hm
  exact selects_self_of_private hm hk hki hp hi hy
/-! own layer, wide: the walk may intern; s0 is the true start, s the base at hand -/
def own_FinW (Z : State) (EL : List (String × Nat)) (tb : Tables) (e : Env) (below : List Frame) (s0 : State) (Q : Option Value → Heap → List Loc → Prop) (k n : Nat) (t : State) : Prop :=
  ∃ s₂ o, Steps tb e below t s₂ ∧ s₂.status = .running ∧ Ended s₂ below o ∧ ∃ v L, o = .returned v ∧ Q v s₂.heap L ∧ CHr Z EL s0.vm s0.heap s₂.vm s₂.heap ∧ ReturnedEndW s0 o s₂ L k n
theorem own_goW {Z : State} {EL : List (String × Nat)} {tb : Tables} {e : Env} {below : List Frame} {s : State} {Q : Option Value → Heap → List Loc → Prop} {k n : Nat} {t t' : State}
    (h : ∀ target, Steps tb e below t' target → Steps tb e below t target) (q : own_FinW Z EL tb e below s Q k n t') : own_FinW Z EL tb e below s Q k n t := by
  obtain ⟨s2, o, h1, h2⟩ := q
  exact ⟨s2, o, h _ h1, h2⟩
def own_Wb (s0 s : State) (k : Nat) : Prop := ∃ vm, s = s0.setVm vm ∧ s0.Since vm k
theorem own_Wb.start (s0 : State) : own_Wb s0 s0 0 := ⟨s0.vm, rfl, (State.WarmedH.refl s0).since 0⟩
theorem own_Wb.next {s0 s : State} {vm : Vm} {k k1 n : Nat} (hS : own_Wb s0 s k) (hk : k ≤ k1) (h2 : s.Since vm n) (g : k1 ≤ n) : own_Wb s0 (s.setVm vm) n := by
  obtain ⟨vm0, rfl, h⟩ := hS
  exact ⟨vm, rfl, h.trans h2 (Nat.le_trans hk g)⟩
theorem own_chr0 {Z : State} {vm vm' : Vm} {h h' : Heap} (q : h.size ≤ h'.size) : CHr Z [] vm h vm' h' := by
  refine ⟨fun p hp => ?_, q, fun y B => ?_⟩
  · cases hp
  · obtain ⟨p, hp, -⟩ := B; cases hp
section OwnW
variable {p : Program} {l : Launch} {e : Env} {R : Room} {s : State} {m : MethodId} {args : Array Value} {below : List Frame} {meth : Method} {c : Code} {T : State} {locs : List Loc} {cells slots : Nat} {Z s0 : State} {a0 : Array Value} {h : Heap} {EL : List (String × Nat)}
theorem own_retW (X : Stand p l e R s m args below meth c T locs cells slots) (hx : p.tables.exec = Jvm.exec) (hlk : meth.locks = false) {k0 : Nat} (hS : own_Wb s0 s k0) (hk0 : k0 ≤ T.heap.size) {pc : Nat} {Ls : Array Slot} {w : Value} {t : FieldType} {i : Instr} {rest : List Value} (hret : meth.sig.returnType = some t) (hn : narrow t w = w)
    (hi : (i = .ireturn ∧ (t = .int ∨ t = .boolean ∨ t = .byte ∨ t = .char ∨ t = .short) ∧ ∃ z, w = .int z) ∨ (i = .lreturn ∧ t = .long ∧ ∃ z, w = .long z) ∨ (i = .dreturn ∧ t = .double ∧ ∃ z, w = .double z) ∨ (i = .freturn ∧ t = .float ∧ ∃ z, w = .float z) ∨ (i = .areturn ∧ t.isReference = true ∧ w.isRef = true))
    (hd : decode c.code pc = .ok (i, 1)) {Q : Option Value → Heap → List Loc → Prop} {k n : Nat} (hk : cells ≤ k) (hs : slots ≤ n) (hC : CHr Z EL s0.vm s0.heap T.vm T.heap) (hQ : Q (some w) T.heap locs) :
    own_FinW Z EL p.tables e below s0 Q k n (T.setTop (mkF m pc Ls (w :: rest))) := by
  obtain ⟨vm, rfl, hS⟩ := hS
  obtain ⟨fs, hr, hrun, hended, h1, h2, h3, h4⟩ := X.leaveW hS hk0 (v := some w) (fun h => by rw [hret] at h; cases h) hlk
  exact ⟨_, _, retOut X hx hret hn hi hd hr, hrun, hended, _, _, rfl, hQ, hC, h1, h2, h3, h4.mono hk hs⟩
/-- 'ldc' of a String constant whose text isn't looked at -/
theorem own_ldcO (X : Stand p l e R s m args below meth c T locs cells slots) (hx : p.tables.exec = Jvm.exec) (hZ : Z.Warmed39 s.vm) {own text : String} {index : Nat} (hown : s.vm.findClass own = some m.cls) (w : (Cond.stringLink own index text).before a0 Z = true) (wS : ∀ a ∈ Bundle.stringAtoms, a.before a0 Z = true)
    (eT : T.heap = h) {k0 : Nat} (hS : own_Wb s0 s k0) (hk : k0 ≤ h.size) {g : JFrame} (hg : g.method = m) (hd : decode c.code g.pc = .ok (.ldc index, 2)) {n : Nat} (hn : 4 * text.toList.length ≤ n) (hbig : n ≤ 536870912) (hc : cells + 2 ≤ R.cells) (hl : slots + (n + 4) ≤ R.slots) :
    ∃ (a : Addr) (T' : State) (h' : Heap) (k1 : Nat) (s' : State), Stand p l e R s' m args below meth c T' locs (cells + 2) (slots + (n + 4)) ∧ T'.heap = h' ∧ Ext h h' ∧ own_Wb s0 s' k1 ∧ k1 ≤ h'.size ∧ Z.Warmed39 s'.vm ∧ s'.vm.findClass own = some m.cls ∧
      ∀ target, Steps p.tables e below (T'.setTop { g with pc := g.pc + 2, stack := .ref a :: g.stack }) target → Steps p.tables e below (T.setTop g) target := by
  obtain ⟨vm, rfl, hS⟩ := hS
  obtain ⟨a, T', h', k1, r1, r2, r3, r4, r5, r6, r7, -, -, r8⟩ := ldcOH (EL := []) X hx hZ hown w wS eT hS hk EW.nil (fun p hp => by cases hp) hg hd hn hbig hc hl
  exact ⟨a, T', h', k1, _, r1, r2, r3, ⟨_, rfl, r4⟩, r5, r6, r7, r8⟩
theorem own_Arf.arv {b : Addr} {k : ClassId} {z : Int32} {vs : List Value} {f : Nat → Value} (A : Arv Z h b k .byte z vs (.int 0)) (hf : ∀ i, i < z.toNatClampNeg → vs.getD i (.int 0) = f i) : own_Arf Z h b .byte z f := by
  obtain ⟨cl, A, -, S, q, H, -⟩ := A
  exact ⟨cl, A, S, q, fun i hi => by rw [← hf i hi]; exact H i (by rw [S]; exact hi)⟩
/-- 'ldc' of a String constant that is among EL: its text is known -/
theorem own_ldcC (X : Stand p l e R s m args below meth c T locs cells slots) (hx : p.tables.exec = Jvm.exec) (hZ : Z.Warmed39 s.vm) {own text : String} {index : Nat} (hown : s.vm.findClass own = some m.cls) (w : (Cond.stringLink own index text).before a0 Z = true) (wS : ∀ a ∈ Bundle.stringAtoms, a.before a0 Z = true)
    (eT : T.heap = h) {k0 : Nat} (hS : own_Wb s0 s k0) (hk : k0 ≤ h.size) (hEL : EW Z a0 EL) (hmem : (own, index) ∈ EL) (H : CHr Z EL s0.vm s0.heap s.vm h)
    {vs : List Value} {z : Int32} (ht : (∀ c ∈ text.toList, c.toNat < 256) ∧ text.toList.map (fun c => Value.int (Jvm.Lit.byteI c.toNat.toUInt16)) = vs) (hz : ¬ z < 0) (hl : z.toNatClampNeg = vs.length) {f : Nat → Value} (hf : ∀ i, i < z.toNatClampNeg → vs.getD i (.int 0) = f i)
    {g : JFrame} (hg : g.method = m) (hd : decode c.code g.pc = .ok (.ldc index, 2)) {n : Nat} (hn : 4 * text.toList.length ≤ n) (hbig : n ≤ 536870912) (hc : cells + 2 ≤ R.cells) (hl' : slots + (n + 4) ≤ R.slots) :
    ∃ (a : Addr) (T' : State) (h' : Heap) (k1 : Nat) (s' : State) (b : Addr), Stand p l e R s' m args below meth c T' locs (cells + 2) (slots + (n + 4)) ∧ T'.heap = h' ∧ Ext h h' ∧ own_Wb s0 s' k1 ∧ k1 ≤ h'.size ∧ Z.Warmed39 s'.vm ∧ s'.vm.findClass own = some m.cls ∧ CHr Z EL s0.vm s0.heap s'.vm h' ∧
      Exa Z h' a "java/lang/String" ∧ Fld Z h' a "java/lang/String" "coder" "B" (.int 0) ∧ Fld Z h' a "java/lang/String" "value" "[B" (.ref b) ∧ own_Arf Z h' b .byte z f ∧
      ∀ target, Steps p.tables e below (T'.setTop { g with pc := g.pc + 2, stack := .ref a :: g.stack }) target → Steps p.tables e below (T.setTop g) target := by
  obtain ⟨vm, rfl, hS⟩ := hS
  obtain ⟨a, T', h', k1, b, k, r1, r2, r3, r4, r5, r6, r7, r8, r9, r10, r11, -, -, r12, -, -, r13⟩ := ldcCH X hx hZ hown w wS eT hS hk hEL hmem H.1 ht hz hl hg hd hn hbig hc hl'
  exact ⟨a, T', h', k1, _, b, r1, r2, r3, ⟨_, rfl, r4⟩, r5, r6, r7, H.trans r12, r8, r9, r10, own_Arf.arv r11 hf, r13⟩
theorem own_chT (X : Stand p l e R s m args below meth c T locs cells slots) (hZ : Z.Warmed39 s.vm) {k0 : Nat} (hS : own_Wb s0 s k0) (hEL : EW Z a0 EL) (eT : T.heap = h) (H : CHr Z EL s0.vm s0.heap s.vm h) : CHr Z EL s0.vm s0.heap T.vm T.heap := by
  obtain ⟨vm, rfl, hS⟩ := hS
  subst eT
  exact H.trans (CHv.at X hZ hEL H.1)
theorem own_chO (X : Stand p l e R s m args below meth c T locs cells slots) {k0 : Nat} (hS : own_Wb s0 s k0) : CHr Z [] s0.vm s0.heap T.vm T.heap := by
  obtain ⟨vm, rfl, hS⟩ := hS
  exact own_chr0 X.same.2.1
end OwnW
theorem own_strne {Z : State} {h : Heap} {a a' b b' : Addr} {n n' : Int32} {f f' : Nat → Value} (F : Fld Z h a "java/lang/String" "value" "[B" (.ref b)) (F' : Fld Z h a' "java/lang/String" "value" "[B" (.ref b')) (A : own_Arf Z h b .byte n f) (A' : own_Arf Z h b' .byte n' f') (hn : n.toNatClampNeg ≠ n'.toNatClampNeg) : a ≠ a' := by
  refine F.ne F' fun q => ?_
  have q : b = b' := by injection q
  subst q
  obtain ⟨c1, A1, S1, -⟩ := A
  obtain ⟨c2, A2, S2, -⟩ := A'
  cases A1.1.symm.trans A2.1
  exact hn (S1.symm.trans S2)
theorem own_stak {Z : State} {h h' : Heap} {C n d : String} {v : Value} (F : Sta Z h C n d v) (K : Keep h h' []) : Sta Z h' C n d v := by
  obtain ⟨cf, i, k, f, st, cell, h1, h2, h3, h4, h5, r⟩ := F
  exact ⟨cf, i, k, f, st, cell, h1, h2, h3, h4, K.2.1 _ _ h5 (by simp), r⟩

/-! own layer for AddressedMessages: boolean arrays, the array of outboxes, an outbox as one fact, entries that are resolved -/
section OwnC
variable {Z : State} {h h' : Heap} {a b x : Addr} {ty ty' : FieldType} {n j : Int32} {f : Nat → Value} {ws : List Addr} {v : Value} {sl : Nat}
theorem own_ne_ty {m : Int32} {g : Nat → Value} (F : own_Arf Z h a ty n f) (G : own_Arf Z h b ty' m g) (q : ty ≠ ty') : a ≠ b := fun e => by
  subst e
  obtain ⟨c1, A1, -⟩ := F
  obtain ⟨c2, A2, -⟩ := G
  cases A1.1.symm.trans A2.1
  obtain ⟨-, k1, h1, p1, e1⟩ := A1.2.1
  obtain ⟨-, k2, h2, p2, e2⟩ := A2.2.1
  cases h1.symm.trans h2
  have := e1.symm.trans e2
  injection this with _ e
  exact q e
variable {p : Program} {l : Launch} {e : Env} {R : Room} {s : State} {m : MethodId} {args : Array Value} {below : List Frame} {meth : Method} {c : Code} {T : State} {locs : List Loc} {cells slots : Nat} {g : JFrame} {rest : List Value} {a0 : Array Value}
theorem own_zaload (X : Stand p l e R s m args below meth c T locs cells slots) (hx : p.tables.exec = Jvm.exec) (hZ : Z.Warmed39 s.vm) (eT : T.heap = h) (F : own_Arf Z h a .boolean n f) (hj : ¬ j < 0 ∧ j < n) {x : Int32} (hv : f j.toNatClampNeg = .int x) (hg : g.method = m) (hs : g.stack = .int j :: .ref a :: rest) (hd : decode c.code g.pc = .ok (.baload, 1)) (target : State)
    (hr : Steps p.tables e below (T.setTop { g with pc := g.pc + 1, stack := .int x :: rest }) target) : Steps p.tables e below (T.setTop g) target := by
  obtain ⟨cl, A, S, q, H⟩ := F
  have hin := inb_of S hj
  exact X.baloadBooleans hx (by rw [eT]; exact A.1) (State.isArrayOf_alike hZ.alike A.2.1) A.2.2 hin (by rw [H _ (by rw [← S]; omega), hv]) hg hs hd _ hr
theorem own_stZ (X : Stand p l e R s m args below meth c T locs cells slots) (hx : p.tables.exec = Jvm.exec) (hZ : Z.Warmed39 s.vm) (eT : T.heap = h) {q : Nat → Int32} (F : own_Arf Z h a .boolean n (fun i => .int (q i))) (hj : ¬ j < 0 ∧ j < n) {x : Int32} (hg : g.method = m) (hs : g.stack = .int x :: .int j :: .ref a :: rest) (hd : decode c.code g.pc = .ok (.bastore, 1)) :
    ∃ T' h', Stand p l e R s m args below meth c T' (locs ++ [⟨a, j.toNatClampNeg⟩]) cells slots ∧ T'.heap = h' ∧ Wr h h' a j.toNatClampNeg (.int (nar .boolean x)) ∧ own_Arf Z h' a .boolean n (fun i => .int (own_set q j (nar .boolean x) i)) ∧ ∀ target, Steps p.tables e below (T'.setTop { g with pc := g.pc + 1, stack := rest }) target → Steps p.tables e below (T.setTop g) target := by
  obtain ⟨cl, A, S, q1, H⟩ := F
  obtain ⟨T', h', X', e', W, st⟩ := stZ X hx hZ eT A (inb_of S hj) hg hs hd
  refine ⟨T', h', X', e', W, (own_Arf.wr ⟨cl, A, S, q1, H⟩ W).fn fun i hi => ?_, st⟩
  simp only [own_set]; split <;> rfl
/-- the array of two outboxes -/
def own_Oa (Z : State) (h : Heap) (a : Addr) (C : String) (v0 v1 : Value) : Prop :=
  ∃ cl : Cell, Arr Z h a cl (.object C) ∧ Ovr Z cl.cls C ∧ cl.slots.size = 2 ∧ cl.slots[0]? = some v0 ∧ cl.slots[1]? = some v1
variable {C : String} {v0 v1 : Value}
theorem own_Oa.lt (F : own_Oa Z h a C v0 v1) : a < h.size := by obtain ⟨cl, A, -⟩ := F; exact A.lt
theorem own_Oa.ext (F : own_Oa Z h a C v0 v1) (E : Ext h h') : own_Oa Z h' a C v0 v1 := by obtain ⟨cl, A, r⟩ := F; exact ⟨cl, A.ext E, r⟩
theorem own_Oa.other (F : own_Oa Z h b C v0 v1) (W : Wr h h' a sl v) (q : b ≠ a) : own_Oa Z h' b C v0 v1 := by obtain ⟨cl, A, r⟩ := F; exact ⟨cl, A.other W q, r⟩
theorem own_Oa.keep (F : own_Oa Z h a C v0 v1) (K : Keep h h' ws) (q : a ∉ ws) : own_Oa Z h' a C v0 v1 := by obtain ⟨cl, A, r⟩ := F; exact ⟨cl, ⟨K.2.1 a cl A.1 q, A.2⟩, r⟩
theorem own_Oa.wr0 (F : own_Oa Z h a C v0 v1) (W : Wr h h' a 0 v) : own_Oa Z h' a C v v1 := by
  obtain ⟨cl, A, O, S, h0, h1⟩ := F
  exact ⟨_, A.same W, O, by simpa [Cell.setSlot] using S, by simp [Cell.setSlot, S], by simpa [Cell.setSlot] using h1⟩
theorem own_Oa.wr1 (F : own_Oa Z h a C v0 v1) (W : Wr h h' a 1 v) : own_Oa Z h' a C v0 v := by
  obtain ⟨cl, A, O, S, h0, h1⟩ := F
  exact ⟨_, A.same W, O, by simpa [Cell.setSlot] using S, by simpa [Cell.setSlot] using h0, by simp [Cell.setSlot, S]⟩
theorem own_ne_oa {k : Nat} (F : Exa Z h a C) (wi : (Cond.instantiable C k).before a0 Z = true) {C' : String} (G : own_Oa Z h b C' v0 v1) : a ≠ b := by
  obtain ⟨cl, A, -⟩ := G; exact ne_arr F wi A
theorem own_ne_oarf (F : own_Arf Z h a ty n f) (G : own_Oa Z h b C v0 v1) (q : ty ≠ .object C) : a ≠ b := fun e => by
  subst e
  obtain ⟨c1, A1, -⟩ := F
  obtain ⟨c2, A2, -⟩ := G
  cases A1.1.symm.trans A2.1
  obtain ⟨-, k1, h1, p1, e1⟩ := A1.2.1
  obtain ⟨-, k2, h2, p2, e2⟩ := A2.2.1
  cases h1.symm.trans h2
  have := e1.symm.trans e2
  injection this with _ e
  exact q e
theorem own_Oa.new {k : ClassId} (A : Arr Z h a (newA k (.object C) 2) (.object C)) (O : Ovr Z k C) : own_Oa Z h a C .null .null :=
  ⟨_, A, O, rfl, rfl, rfl⟩
theorem own_oalen (X : Stand p l e R s m args below meth c T locs cells slots) (hx : p.tables.exec = Jvm.exec) (hZ : Z.Warmed39 s.vm) (eT : T.heap = h) (F : own_Oa Z h a C v0 v1) (hg : g.method = m) (hs : g.stack = .ref a :: rest) (hd : decode c.code g.pc = .ok (.arraylength, 1)) (target : State)
    (hr : Steps p.tables e below (T.setTop { g with pc := g.pc + 1, stack := .int 2 :: rest }) target) : Steps p.tables e below (T.setTop g) target := by
  obtain ⟨cl, A, -, S, -⟩ := F
  refine X.arraylength hx (by rw [eT]; exact A.1) (State.isArrayOf_alike hZ.alike A.2.1) hg hs hd _ ?_
  rw [S]; exact hr
theorem own_oald (X : Stand p l e R s m args below meth c T locs cells slots) (hx : p.tables.exec = Jvm.exec) (hZ : Z.Warmed39 s.vm) (eT : T.heap = h) (F : own_Oa Z h a C v0 v1) (hj : (j = 0 ∧ v = v0) ∨ (j = 1 ∧ v = v1)) (hg : g.method = m) (hs : g.stack = .int j :: .ref a :: rest) (hd : decode c.code g.pc = .ok (.aaload, 1)) (target : State)
    (hr : Steps p.tables e below (T.setTop { g with pc := g.pc + 1, stack := v :: rest }) target) : Steps p.tables e below (T.setTop g) target := by
  obtain ⟨cl, A, O, S, h0, h1⟩ := F
  rcases hj with ⟨rfl, rfl⟩ | ⟨rfl, rfl⟩
  · exact X.aaload (j := 0) hx (by rw [eT]; exact A.1) (State.isArrayOf_alike hZ.alike A.2.1) rfl A.2.2 (by rw [S]; decide) h0 hg hs hd _ hr
  · exact X.aaload (j := 1) hx (by rw [eT]; exact A.1) (State.isArrayOf_alike hZ.alike A.2.1) rfl A.2.2 (by rw [S]; decide) h1 hg hs hd _ hr
theorem own_oast (X : Stand p l e R s m args below meth c T locs cells slots) (hx : p.tables.exec = Jvm.exec) (hZ : Z.Warmed39 s.vm) (eT : T.heap = h) (F : own_Oa Z h a C v0 v1) (E : Exa Z h b C) (hj : j = 0 ∨ j = 1) (hg : g.method = m) (hs : g.stack = .ref b :: .int j :: .ref a :: rest) (hd : decode c.code g.pc = .ok (.aastore, 1)) :
    ∃ T' h', Stand p l e R s m args below meth c T' (locs ++ [⟨a, j.toNatClampNeg⟩]) cells slots ∧ T'.heap = h' ∧ Wr h h' a j.toNatClampNeg (.ref b) ∧ own_Oa Z h' a C (if j = 0 then .ref b else v0) (if j = 1 then .ref b else v1) ∧ ∀ target, Steps p.tables e below (T'.setTop { g with pc := g.pc + 1, stack := rest }) target → Steps p.tables e below (T.setTop g) target := by
  obtain ⟨cl, A, O, S, h0, h1⟩ := id F
  rcases hj with rfl | rfl
  · obtain ⟨T', h', X', e', W, st⟩ := stR X hx hZ eT A (v := .ref b) (by rw [S]; decide) rfl (Sto.of A O (Ins.self E)) hg hs hd
    exact ⟨T', h', X', e', W, F.wr0 W, st⟩
  · obtain ⟨T', h', X', e', W, st⟩ := stR X hx hZ eT A (v := .ref b) (by rw [S]; decide) rfl (Sto.of A O (Ins.self E)) hg hs hd
    exact ⟨T', h', X', e', W, F.wr1 W, st⟩
end OwnC
theorem own_dupX2 {tb : Tables} [Ours tb] {e : Env} {below : List Frame} {T target : State} {m : MethodId} {c : Code} {g : JFrame} (h : At T m c below) (hx : tb.exec = Jvm.exec) (hg : g.method = m) {x y : Int32} {a : Addr} {rest : List Value} (hd : decode c.code g.pc = .ok (.dup_x2, 1)) (hs : g.stack = .int x :: .int y :: .ref a :: rest)
    (hr : Steps tb e below (T.setTop { g with pc := g.pc + 1, stack := .int x :: .int y :: .ref a :: .int x :: rest }) target) : Steps tb e below (T.setTop g) target := by
  subst hg
  jvm_step h [hx, hd, hs, dup_x2.wp_sem, Value.category]
  exact hr
section OwnD
variable {p : Program} {l : Launch} {e : Env} {R : Room} {s : State} {m : MethodId} {args : Array Value} {below : List Frame} {meth : Method} {c : Code} {T : State} {locs : List Loc} {cells slots : Nat} {Z : State} {a0 : Array Value} {h : Heap} {g : JFrame} {rest : List Value}
/-- a field through an entry that is resolved -/
theorem own_getFR (X : Stand p l e R s m args below meth c T locs cells slots) (hx : p.tables.exec = Jvm.exec) (hZ : Z.Warmed39 s.vm) {own C n d : String} {index : Nat} (hown : s.vm.findClass own = some m.cls) (w : (Cond.fieldRef own index C n d).before a0 Z = true) (eT : T.heap = h) {a : Addr} {v : Value} (F : Fld Z h a C n d v)
    (hg : g.method = m) (hs : g.stack = .ref a :: rest) (hd : decode c.code g.pc = .ok (.getfield index, 3)) (target : State) (hr : Steps p.tables e below (T.setTop { g with pc := g.pc + 3, stack := v :: rest }) target) : Steps p.tables e below (T.setTop g) target := by
  have hZT : Z.Warmed39 T.vm := wtrans hZ X.warmed
  have wT := Cond.fieldRef_warmed39 hZT w
  have hoT : T.vm.findClass own = some m.cls := by rw [X.warmed.alike.findClass]; exact hown
  obtain ⟨cf, k, i, f, hi, hready⟩ := Cond.fieldRef_spec (s := Z.setVm T.vm) hoT wT
  obtain ⟨cell, cf', k', i', f', h1, h2, h3, h4, h5, h6, h7⟩ := F
  obtain ⟨k2, q, -⟩ := State.fieldFound?_setVm (s := Z) hZT.alike h2
  cases q.symm.trans hi
  exact (X.getfieldR hx hg hready h3 hs (by rw [eT]; exact h1) h4 h7 hd (Steps.refl _)).trans hr
theorem own_putFR (X : Stand p l e R s m args below meth c T locs cells slots) (hx : p.tables.exec = Jvm.exec) (hZ : Z.Warmed39 s.vm) {own C K n d : String} {index nn : Nat} {ty : FieldType} (hown : s.vm.findClass own = some m.cls) (w : (Cond.fieldRef own index C n d).before a0 Z = true) (eT : T.heap = h) {a : Addr} {v0 v : Value} (F : Fld Z h a C n d v0) (E : Exa Z h a K) (L : (Cond.lays K C n d).before a0 Z = true) (wi : (Cond.instantiable K nn).before a0 Z = true)
    (hty : parseFieldDescriptor d = some ty) (hn : narrow ty v = v) (hf : fits ty v = true) (hg : g.method = m) (hs : g.stack = v :: .ref a :: rest) (hd : decode c.code g.pc = .ok (.putfield index, 3)) :
    ∃ T' h', Stand p l e R s m args below meth c T' (locs ++ [⟨a, Jvm.RoadKit.slotOf Z C n d⟩]) cells slots ∧ T'.heap = h' ∧ Wr h h' a (Jvm.RoadKit.slotOf Z C n d) v ∧ ∀ target, Steps p.tables e below (T'.setTop { g with pc := g.pc + 3, stack := rest }) target → Steps p.tables e below (T.setTop g) target := by
  have hZT : Z.Warmed39 T.vm := wtrans hZ X.warmed
  have wT := Cond.fieldRef_warmed39 hZT w
  have hoT : T.vm.findClass own = some m.cls := by rw [X.warmed.alike.findClass]; exact hown
  obtain ⟨cf0, k0, i0, f0, hi, hready⟩ := Cond.fieldRef_spec (s := Z.setVm T.vm) hoT wT
  obtain ⟨cell, cf, k, i, f, h1, h2, h3, h4, h5, -, h7⟩ := F
  obtain ⟨k2, q, -⟩ := State.fieldFound?_setVm (s := Z) hZT.alike h2
  have qq := q.symm.trans hi
  simp only [Option.some.injEq, Prod.mk.injEq] at qq
  obtain ⟨e1q, -, -, e2q⟩ := qq
  rw [← e1q, ← e2q] at hready
  obtain ⟨cell', kc, e1, e2, e3, -⟩ := E
  cases h1.symm.trans e1
  obtain ⟨c1, k1, cf1, kf1, i1, f1, a1, a2, a3, -, a5, a6, a7, -⟩ := Cond.lays_spec L
  cases h2.symm.trans a3
  cases e2.symm.trans a1
  obtain ⟨c2, k3, j1, j2, j3, -⟩ := Cond.instantiable_spec wi
  cases e2.symm.trans j1
  cases a2.symm.trans j2
  have ht := (State.fieldFound?_type h2 hty).2
  have hfit : Z.fitsSlot cell.cls cell.vm f.slot v = true := by
    have q : Z.slotType? cell.cls cell.vm f.slot = some ty := by
      simp only [State.slotType?, a2, Option.bind_eq_bind, Option.bind_some, j3]
      cases hq : cell.vm <;> first | (rw [hq] at h5; exact Bool.noConfusion h5) | (rw [a7, ht])
    simp [State.fitsSlot, q, hf]
  have hfit' : T.fitsSlot cell.cls cell.vm f.slot v = true := by rw [← State.fitsSlot_setVm hZT.alike] at hfit; exact hfit
  have hlt := (Array.getElem?_eq_some_iff.mp h7).1
  have es : Jvm.RoadKit.slotOf Z C n d = f.slot := by simp [Jvm.RoadKit.slotOf, h2]
  rw [es]
  obtain ⟨X', st⟩ := X.putfieldReady hx hready h3 (Or.inl a5) (by rw [eT]; exact h1) h4 hlt (by rw [ht]; exact hn) hfit' hg hs hd
  exact ⟨_, _, X', rfl, ⟨cell, h1, h5, hlt, by rw [← eT]; rfl⟩, st⟩
/-- a constructor through an entry that is resolved -/
theorem own_specR (X : Stand p l e R s m args below meth c T locs cells slots) (hx : p.tables.exec = Jvm.exec) (hZ : Z.Warmed39 s.vm) {own : String} {index : Nat} {y : MethodName} (hy1 : y.name = "<init>") (hown : s.vm.findClass own = some m.cls) (w : (Cond.methodRef own index y).before a0 Z = true) (hinst : (Cond.instanceMethod y).before a0 Z = true)
    {bytes : ByteArray} {maxL : Nat} (hcode : (Cond.code y bytes maxL none).before a0 Z = true) (hy : y.cls ≠ "java/lang/invoke/MethodHandle" ∧ y.cls ≠ "java/lang/invoke/VarHandle")
    {W : Nat} {Pre : Pt → Array Value → Prop} {Post : Pt → Array Value → Option Value → Pt → Prop} (hK : Back l R p e below s args y 3 W Pre Post)
    {g : JFrame} (hg : g.method = m) (hsize : g.locals.size = c.maxLocals) {a : Addr} {argsL rest : List Value}
    (hlen : ∀ sig, parseMethodDescriptor y.desc = some sig → argsL.length = sig.parameters.length) (hstack : g.stack = argsL.reverse ++ .ref a :: rest) (hW : 2 * g.monitorRoom + (rest.map fun v => v.category).sum ≤ W)
    (hdg : decode c.code g.pc = .ok (.invokespecial index, 3)) (hpre : ∀ vm₁, s.WarmedH vm₁ → Pre ⟨T.setVm vm₁, locs, cells, slots⟩ (.ref a :: argsL).toArray) :
    ∃ (v : Option Value) (vm₁ : Vm) (B : Pt), s.WarmedH vm₁ ∧ Stand p l e R s m args below meth c B.U B.locs B.cells B.slots ∧ Post ⟨T.setVm vm₁, locs, cells, slots⟩ (.ref a :: argsL).toArray v B ∧
      Steps p.tables e below (T.setTop g) (B.U.setTop { g with pc := g.pc + 3, stack := v.toList ++ rest }) := by
  have hZT : Z.Warmed39 T.vm := wtrans hZ X.warmed
  have wT : (Cond.methodRef own index y).before args T = true := by
    obtain ⟨_, _, hnZ, _⟩ := Cond.instanceMethod_spec hinst
    have q := Cond.methodRef_warmed39 hZT hnZ hy w
    exact q
  have iT : (Cond.instanceMethod y).before args T = true := mv hZT hinst
  have cT : (Cond.code y bytes maxL none).before args T = true := mv hZT hcode
  have hoT : T.vm.findClass own = some m.cls := by rw [X.warmed.alike.findClass]; exact hown
  subst hg
  obtain ⟨mo, methO, hnO, hmO, hstO, habO⟩ := Cond.instanceMethod_spec iT
  obtain ⟨methO', cO, hmO', hcO, hbO, hlO, -, hlockO, -, hsigO⟩ := Cond.code_spec hnO cT
  cases hmO.symm.trans hmO'
  obtain ⟨kO, hkO, hnameO⟩ := className_of_methodNamed hnO
  obtain ⟨hnameMO, hdescO⟩ := name_of_methodNamed hnO hmO
  obtain ⟨m', c', ci, b, hfd, hready, hfc, hask, hcr⟩ := Cond.methodRef_spec (e := e) hoT wT
  have hmm : m' = mo := by
    have q := State.methodFound?_of_named hnO hy
    exact Option.some.inj (hfd.symm.trans q)
  subst hmm
  have hcc : c' = m'.cls := Option.some.inj (hfc.symm.trans (findClass_of_methodNamed hnO))
  subst hcc
  obtain ⟨dk, cf, nt, hdk, hcf, hcp⟩ : ∃ (dk : Class) (cf : ClassFile) (nt : Nat), T.vm.classes[g.method.cls]? = some dk ∧ dk.cf = some cf ∧ (cf.constantPool[index]? = some (.methodref ci nt) ∨ cf.constantPool[index]? = some (.interfaceMethodref ci nt)) := by
    have h := wT
    simp only [Cond.before, Cond.holds, Cond.value, hoT, hfd, beq_iff_eq, Option.some.injEq, Bool.and_eq_true, decide_eq_true_eq] at h
    obtain ⟨⟨hnames, hcls⟩, hres⟩ := h
    obtain ⟨cp, hcp, hn⟩ := State.names_spec hnames
    obtain ⟨ci2, nt, hentry, hnt, -⟩ := namesOf?_method hn
    obtain ⟨k, cf, hk, hcf, rfl⟩ := State.poolOf?_spec hoT hcp
    obtain ⟨b2, hask2⟩ := memberRef_ask' (e := e) hk hcf hentry hnt
    have q := hask.symm.trans hask2
    have q2 : ci = ci2 := by
      injection q with q
      exact congrArg Prod.fst q
    subst q2
    exact ⟨k, cf, nt, hk, hcf, hentry⟩
  have hfound : lookupSpecial T.vm m'.cls "<init>" methO.desc = .method m' := by
    rw [hdescO, ← hy1]; exact lookupSpecial_of_named hnO hmO hstO
  have X₁ : Stand p l e R s g.method args below meth c (T.setVm T.vm) locs cells slots := X
  obtain ⟨v, B, X', hpost, hsteps⟩ := hK g.method meth c ⟨T.setVm T.vm, locs, cells, slots⟩ { g with stack := rest } (.invokespecial index) m' (.ref a :: argsL).toArray X₁ rfl hsize hdg hW hnO (hpre T.vm X.warmed)
  refine ⟨v, T.vm, B, X.warmed, X', hpost, ?_⟩
  have st : ∀ target, (∀ acts, Steps p.tables e below (doInvoke e (T.setTop { g with stack := rest }) acts m' (.ref a :: argsL).toArray).1 target) → Steps p.tables e below (T.setTop g) target := fun target hrest => by
    jvm_step X.here [hx, hdg, invokespecial.wp_init (e := e) (s := T) (k := kO) (meth := methO) (m := m') (a := a) (args := argsL) (rest := rest) (f := g)
      X.here.top ⟨dk, cf, ci, nt, hdk, hcf, hcp, hcr⟩ hready hkO hmO (by rw [hnameMO]; exact hy1) hstO habO hfound (hlen _ hsigO) hstack]
    exact hrest
  exact (st _ fun acts => by rw [doInvoke_state]; exact Steps.refl _).trans hsteps
end OwnD

/-! an outbox as one fact: L the receivers of its messages, D its cells -/
abbrev own_OB : String := "com/example/lockstep/lockstep/engine/AddressedMessages$Outbox"
def own_Bx (Z : State) (h : Heap) (n0 : Nat) (a b1 b2 b3 : Addr) (z : Int32) (q1 g : Nat → Int32) (q3 : Nat → Int64) : Prop :=
  (n0 ≤ a ∧ n0 ≤ b1 ∧ n0 ≤ b2 ∧ n0 ≤ b3 ∧ b1 ≠ b2) ∧ Exa Z h a own_OB ∧ Fld Z h a own_OB "size" "I" (.int z) ∧ Fld Z h a own_OB "senders" "[I" (.ref b1) ∧ Fld Z h a own_OB "receivers" "[I" (.ref b2) ∧ Fld Z h a own_OB "messages" "[J" (.ref b3) ∧
    own_Arf Z h b1 .int 16 (fun i => .int (q1 i)) ∧ own_Arf Z h b2 .int 16 (fun i => .int (g i)) ∧ own_Arf Z h b3 .long 16 (fun i => .long (q3 i))
def own_Box (Z : State) (h : Heap) (n0 : Nat) (v : Value) (D : List Addr) (L : List Int32) : Prop :=
  L.length ≤ 4 ∧ ((v = .null ∧ D = [] ∧ L = []) ∨ ∃ (a b1 b2 b3 : Addr) (q1 g : Nat → Int32) (q3 : Nat → Int64), v = .ref a ∧ D = [a, b1, b2, b3] ∧ own_Bx Z h n0 a b1 b2 b3 (Int32.ofNat L.length) q1 g q3 ∧ ∀ i, i < L.length → g i = L.getD i 0)
section OwnE
variable {Z : State} {h h' : Heap} {n0 : Nat} {a b1 b2 b3 x : Addr} {z : Int32} {q1 g : Nat → Int32} {q3 : Nat → Int64} {v w : Value} {D ws : List Addr} {L : List Int32} {sl : Nat}
theorem own_Bx.ext (F : own_Bx Z h n0 a b1 b2 b3 z q1 g q3) (E : Ext h h') : own_Bx Z h' n0 a b1 b2 b3 z q1 g q3 := by
  obtain ⟨f0, f1, f2, f3, f4, f5, f6, f7, f8⟩ := F
  exact ⟨f0, f1.ext E, f2.ext E, f3.ext E, f4.ext E, f5.ext E, f6.ext E, f7.ext E, f8.ext E⟩
theorem own_Bx.other (F : own_Bx Z h n0 a b1 b2 b3 z q1 g q3) (W : Wr h h' x sl w) (q : x ∉ [a, b1, b2, b3]) : own_Bx Z h' n0 a b1 b2 b3 z q1 g q3 := by
  obtain ⟨f0, f1, f2, f3, f4, f5, f6, f7, f8⟩ := F
  simp only [List.mem_cons, List.not_mem_nil, or_false, not_or] at q
  obtain ⟨n1, n2, n3, n4⟩ := q
  exact ⟨f0, f1.wr W, f2.other W (Or.inl (Ne.symm n1)), f3.other W (Or.inl (Ne.symm n1)), f4.other W (Or.inl (Ne.symm n1)), f5.other W (Or.inl (Ne.symm n1)), f6.other W (Ne.symm n2), f7.other W (Ne.symm n3), f8.other W (Ne.symm n4)⟩
theorem own_Bx.keep (F : own_Bx Z h n0 a b1 b2 b3 z q1 g q3) (K : Keep h h' ws) (q : ∀ y ∈ ws, y ∉ [a, b1, b2, b3]) : own_Bx Z h' n0 a b1 b2 b3 z q1 g q3 := by
  obtain ⟨f0, f1, f2, f3, f4, f5, f6, f7, f8⟩ := F
  have n : ∀ y, y ∈ [a, b1, b2, b3] → y ∉ ws := fun y hy hw => q y hw hy
  exact ⟨f0, f1.keep K, f2.keep K (n _ (by simp)), f3.keep K (n _ (by simp)), f4.keep K (n _ (by simp)), f5.keep K (n _ (by simp)), f6.keep K (n _ (by simp)), f7.keep K (n _ (by simp)), f8.keep K (n _ (by simp))⟩
theorem own_Bx.lt (F : own_Bx Z h n0 a b1 b2 b3 z q1 g q3) : ∀ y ∈ [a, b1, b2, b3], y < h.size := by
  obtain ⟨f0, f1, f2, f3, f4, f5, f6, f7, f8⟩ := F
  intro y hy
  simp only [List.mem_cons, List.not_mem_nil, or_false] at hy
  rcases hy with rfl | rfl | rfl | rfl
  · exact f1.lt
  · exact f6.lt
  · exact f7.lt
  · exact f8.lt
theorem own_Box.ext (F : own_Box Z h n0 v D L) (E : Ext h h') : own_Box Z h' n0 v D L := by
  obtain ⟨l, F | ⟨a, b1, b2, b3, q1, g, q3, e1, e2, B, e3⟩⟩ := F
  · exact ⟨l, Or.inl F⟩
  · exact ⟨l, Or.inr ⟨a, b1, b2, b3, q1, g, q3, e1, e2, B.ext E, e3⟩⟩
theorem own_Box.other (F : own_Box Z h n0 v D L) (W : Wr h h' x sl w) (q : x ∉ D) : own_Box Z h' n0 v D L := by
  obtain ⟨l, F | ⟨a, b1, b2, b3, q1, g, q3, e1, e2, B, e3⟩⟩ := F
  · exact ⟨l, Or.inl F⟩
  · exact ⟨l, Or.inr ⟨a, b1, b2, b3, q1, g, q3, e1, e2, B.other W (e2 ▸ q), e3⟩⟩
theorem own_Box.keep (F : own_Box Z h n0 v D L) (K : Keep h h' ws) (q : ∀ y ∈ ws, y ∉ D) : own_Box Z h' n0 v D L := by
  obtain ⟨l, F | ⟨a, b1, b2, b3, q1, g, q3, e1, e2, B, e3⟩⟩ := F
  · exact ⟨l, Or.inl F⟩
  · exact ⟨l, Or.inr ⟨a, b1, b2, b3, q1, g, q3, e1, e2, B.keep K (e2 ▸ q), e3⟩⟩
theorem own_Box.lt (F : own_Box Z h n0 v D L) : ∀ y ∈ D, y < h.size := by
  obtain ⟨l, ⟨-, e, -⟩ | ⟨a, b1, b2, b3, q1, g, q3, e1, e2, B, e3⟩⟩ := F
  · rw [e]; intro y hy; cases hy
  · rw [e2]; exact B.lt
theorem own_Box.nin (F : own_Box Z h n0 v D L) (q : h.size ≤ x) : x ∉ D := fun y => absurd (F.lt _ y) (Nat.not_lt.mpr q)
theorem own_nx {y : Addr} (q : x ∉ D) {i : Nat} (e : D[i]? = some y) : x ≠ y := fun z => q (z ▸ List.mem_of_getElem? e)
end OwnE
def own_psh (b j : Int32) (L : List Int32) (r : Int32) : List Int32 := if b = j then L ++ [r] else L
section OwnF
variable {Z : State} {h : Heap} {n0 : Nat} {a b1 b2 b3 : Addr} {z : Int32} {q1 g : Nat → Int32} {q3 : Nat → Int64} {v : Value} {D : List Addr} {L : List Int32}
theorem own_szp (L : List Int32) (r : Int32) : Int32.ofNat L.length + 1 = Int32.ofNat (L ++ [r]).length := by
  rw [List.length_append]; simp [Int32.ofNat_add]
theorem own_gps {L : List Int32} {g : Nat → Int32} (hl : L.length ≤ 3) (hg : ∀ i, i < L.length → g i = L.getD i 0) (r : Int32) : ∀ i, i < (L ++ [r]).length → own_set g (Int32.ofNat L.length) r i = (L ++ [r]).getD i 0 := by
  intro i hi
  have e : (Int32.ofNat L.length).toNatClampNeg = L.length := by
    generalize L.length = n at hl
    match n, hl with
    | 0, _ => rfl
    | 1, _ => rfl
    | 2, _ => rfl
    | 3, _ => rfl
  simp only [own_set, e]
  rw [List.length_append] at hi
  by_cases q : i = L.length
  · subst q; rw [if_pos rfl]; simp [List.getD]
  · rw [if_neg q]
    have hi' : i < L.length := by simp at hi; omega
    rw [hg i hi']; simp [List.getD, List.getElem?_append_left hi']
theorem own_szz {L : List Int32} (hl : L.length ≤ 3) : ¬ Int32.ofNat L.length < 0 ∧ Int32.ofNat L.length < (16 : Int32) := by
  generalize L.length = n at hl
  match n, hl with
  | 0, _ => decide
  | 1, _ => decide
  | 2, _ => decide
  | 3, _ => decide
theorem own_Box.mk (hl : L.length ≤ 4) (hz : z = Int32.ofNat L.length) (hg : ∀ i, i < L.length → g i = L.getD i 0) (g1 : n0 ≤ a) (g2 : n0 ≤ b1) (g3 : n0 ≤ b2) (g4 : n0 ≤ b3) (ne : b1 ≠ b2) (E : Exa Z h a own_OB) (f1 : Fld Z h a own_OB "size" "I" (.int z)) (f2 : Fld Z h a own_OB "senders" "[I" (.ref b1)) (f3 : Fld Z h a own_OB "receivers" "[I" (.ref b2)) (f4 : Fld Z h a own_OB "messages" "[J" (.ref b3))
    (a1 : own_Arf Z h b1 .int 16 (fun i => .int (q1 i))) (a2 : own_Arf Z h b2 .int 16 (fun i => .int (g i))) (a3 : own_Arf Z h b3 .long 16 (fun i => .long (q3 i))) : own_Box Z h n0 (.ref a) [a, b1, b2, b3] L :=
  ⟨hl, Or.inr ⟨a, b1, b2, b3, q1, g, q3, rfl, rfl, ⟨⟨g1, g2, g3, g4, ne⟩, E, hz ▸ f1, f2, f3, f4, a1, a2, a3⟩, hg⟩⟩
end OwnF
theorem own_gp0 (r : Int32) : ∀ i, i < ([] ++ [r] : List Int32).length → own_set (fun _ => (0 : Int32)) (0 : Int32) r i = ([] ++ [r] : List Int32).getD i 0 := fun i hi => by
  have : i = 0 := by simp at hi; omega
  subst this; rfl
theorem own_all4 {P : Addr → Prop} {a b c d : Addr} (ha : P a) (hb : P b) (hc : P c) (hd : P d) : ∀ x ∈ [a, b, c, d], P x := fun x hx => by
  simp only [List.mem_cons, List.not_mem_nil, or_false] at hx
  rcases hx with rfl | rfl | rfl | rfl
  · exact ha
  · exact hb
  · exact hc
  · exact hd
theorem own_nk {a ob : Addr} {D0 D1 : List Addr} (h : a ≠ ob) (h0 : a ∉ D0) (h1 : a ∉ D1) : a ∉ ob :: (D0 ++ D1) := fun q => by
  rcases List.mem_cons.mp q with q | q
  · exact h q
  · exact (List.mem_append.mp q).elim h0 h1
theorem own_nbC {a : Addr} {D C : List Addr} {k : Nat} (h : a ∉ D) (hlt : a < k) (q : ∀ x ∈ C, x ∈ D ∨ k ≤ x) : a ∉ C := fun z => (q a z).elim h fun w => absurd hlt (Nat.not_lt.mpr w)
theorem own_vr {tb : Tables} {e : Env} {below : List Frame} {s : State} {Q : Option Value → Heap → List Loc → Prop} {k n : Nat} {T : State} {m : MethodId} {pc : Nat} {L : Array Slot} {v v' : Value} {S : List Value} (h : v = v') (q : own_Fin tb e below s Q k n (T.setTop (mkF m pc L (v' :: S)))) : own_Fin tb e below s Q k n (T.setTop (mkF m pc L (v :: S))) := by
  rw [h]; exact q

def own_w0 (w : Int64) : Nat → Int64 := fun i => if i = 0 then w else 0
theorem own_w00 (j : Nat) : (0 : Int64) = own_w0 0 j := by unfold own_w0; split <;> rfl
theorem own_w0s (w x : Int64) (j : Nat) : own_set (own_w0 w) (0 : Int32) (own_w0 w 0 ||| x) j = own_w0 (w ||| x) j := by
  show (if j = (0 : Int32).toNatClampNeg then (if 0 = 0 then w else 0) ||| x else (if j = 0 then w else 0)) = if j = 0 then w ||| x else 0
  by_cases h : j = 0
  · subst h; rfl
  · rw [if_neg (show ¬ j = (0 : Int32).toNatClampNeg from h), if_neg h, if_neg h]
theorem own_h0 (f : Nat → Int32) : ∀ i, i < (1 : Int32).toNatClampNeg → Value.int (own_set f (0 : Int32) (0 : Int32) i) = .int (0 : Int32) := fun i hi => by
  have : i < 1 := hi
  have : i = 0 := by omega
  subst this; rfl
theorem own_h1 (f : Nat → Int32) : ∀ i, i < (1 : Int32).toNatClampNeg → Value.int (own_set f (0 : Int32) (1 : Int32) i) = .int (1 : Int32) := fun i hi => by
  have : i < 1 := hi
  have : i = 0 := by omega
  subst this; rfl
def own_n3 (x : Int32) : Prop := x = 0 ∨ x = 1 ∨ x = 2 ∨ x = 3
def own_n4 (x : Int32) : Prop := x = 0 ∨ x = 1 ∨ x = 2 ∨ x = 3 ∨ x = 4
theorem own_d64 {x : Int32} (h : own_n3 x) : x / (64 : Int32) = 0 := by rcases h with rfl | rfl | rfl | rfl <;> decide
theorem own_d1024 {x : Int32} (h : own_n3 x) : x / (1024 : Int32) = 0 := by rcases h with rfl | rfl | rfl | rfl <;> decide
theorem own_e64 {x : Int32} (h : own_n4 x) : x / (64 : Int32) = 0 := by rcases h with rfl | rfl | rfl | rfl | rfl <;> decide
theorem own_ne16 {x : Int32} (h : x < 16) : ¬ x = (16 : Int32) := fun e => by subst e; revert h; decide
theorem own_Arf.nneg {Z : State} {h : Heap} {a : Addr} {ty : FieldType} {n : Int32} {f : Nat → Value} (F : own_Arf Z h a ty n f) : ¬ n < 0 := by obtain ⟨c, A, S, q, -⟩ := F; exact q
theorem own_le0 {x : Int32} (h : ¬ x < 0) : (0 : Int32) ≤ x := by
  rw [Int32.le_iff_toInt_le]; rw [Int32.lt_iff_toInt_lt] at h; omega
theorem own_succ {i p2 : Int32} (h : ¬ i < 0) (hc : i < p2) : (i + 1).toInt = i.toInt + 1 := by
  rw [Int32.lt_iff_toInt_lt] at h hc
  have a := c_iadd i 1
  have r := rng32 (i + 1)
  have r2 := rng32 p2
  have k1 : (1 : Int32).toInt = 1 := by decide
  have k0 : (0 : Int32).toInt = 0 := by decide
  rw [k1] at a
  omega
theorem own_fillI {i p2 : Int32} (h : ¬ i < 0) (hc : i < p2) : ¬ (i + 1) < 0 ∧ i + 1 ≤ p2 := by
  have e := own_succ h hc
  rw [Int32.lt_iff_toInt_lt] at h ⊢
  rw [Int32.lt_iff_toInt_lt] at hc
  rw [Int32.le_iff_toInt_le, e]
  have : (0 : Int32).toInt = 0 := by decide
  omega
theorem own_fillM {i p2 : Int32} {kA : Nat} (h : ¬ i < 0) (hc : i < p2) (hk : kA = (p2.toInt - i.toInt).toNat) : (p2.toInt - (i + 1).toInt).toNat < kA := by
  have e := own_succ h hc
  rw [Int32.lt_iff_toInt_lt] at hc
  rw [e]; omega
theorem own_fillS {α : Type} {i p2 : Int32} {v : α} {f fL : Nat → α} (h : ¬ i < 0) (hc : i < p2) (hf : ∀ j : Nat, j < p2.toNatClampNeg → fL j = if j < i.toNatClampNeg then v else f j) : ∀ j : Nat, j < p2.toNatClampNeg → own_set fL i v j = if j < (i + 1).toNatClampNeg then v else f j := by
  intro j hj
  have e := own_succ h hc
  rw [Int32.lt_iff_toInt_lt] at h
  have e2 : (i + 1).toNatClampNeg = i.toNatClampNeg + 1 := by
    have : (0 : Int32).toInt = 0 := by decide
    simp only [Int32.toNatClampNeg, e]; omega
  rw [e2]
  simp only [own_set]
  by_cases q : j = i.toNatClampNeg
  · rw [if_pos q, if_pos (by omega)]
  · rw [if_neg q, hf j hj]
    by_cases r : j < i.toNatClampNeg
    · rw [if_pos r, if_pos (by omega)]
    · rw [if_neg r, if_neg (by omega)]
theorem own_fillE {α : Type} {i p2 : Int32} {v : α} {f fL : Nat → α} (hle : i ≤ p2) (hc : ¬ i < p2) (hf : ∀ j : Nat, j < p2.toNatClampNeg → fL j = if j < i.toNatClampNeg then v else f j) : ∀ j : Nat, j < p2.toNatClampNeg → fL j = v := by
  intro j hj
  have e : i = p2 := by
    apply Int32.toInt_inj.mp
    rw [Int32.le_iff_toInt_le] at hle; rw [Int32.lt_iff_toInt_lt] at hc; omega
  subst e
  rw [hf j hj, if_pos hj]
/-! VertexSet.next -/
def own_bt (w : Int64) (p : Int32) : Int64 := w &&& (own_lshl (-1 : Int64) p)
def own_nI (w : Int64) (p wi : Int32) (bt : Int64) : Prop := (wi = 0 ∧ bt = own_bt w p) ∨ (bt = 0 ∧ own_bt w p = 0 ∧ 1 ≤ wi.toInt ∧ wi.toInt ≤ 15)
theorem own_nIb {w : Int64} {p wi : Int32} {bt : Int64} (h : own_nI w p wi bt) (h0 : bt = 0) (h1 : ¬ (wi + 1) = (16 : Int32)) : own_nI w p (wi + 1) (own_w0 w (wi + 1).toNatClampNeg) ∧ (16 - (wi + 1).toInt).toNat < (16 - wi.toInt).toNat ∧ ¬ (wi + 1) < 0 ∧ (wi + 1) < (16 : Int32) := by
  have a := c_iadd wi 1
  have r := rng32 (wi + 1)
  have k1 : (1 : Int32).toInt = 1 := by decide
  have k0 : (0 : Int32).toInt = 0 := by decide
  have k16 : (16 : Int32).toInt = 16 := by decide
  have w1 : own_bt w p = 0 ∧ 0 ≤ wi.toInt ∧ wi.toInt ≤ 15 := by
    rcases h with ⟨e, h⟩ | ⟨-, h, h2, h3⟩
    · subst e; rw [← h]; exact ⟨h0, by decide, by decide⟩
    · exact ⟨h, by omega, h3⟩
  rw [k1] at a
  have e1 : (wi + 1).toInt = wi.toInt + 1 := by omega
  have e2 : ¬ (wi + 1).toInt = 16 := fun q => h1 (Int32.toInt_inj.mp (q.trans k16.symm))
  have e3 : own_w0 w (wi + 1).toNatClampNeg = 0 := by
    unfold own_w0; rw [if_neg]; simp only [Int32.toNatClampNeg]; omega
  refine ⟨Or.inr ⟨e3, w1.1, by omega, by omega⟩, by omega, ?_, ?_⟩
  · rw [Int32.lt_iff_toInt_lt]; omega
  · rw [Int32.lt_iff_toInt_lt]; omega
theorem own_nI0 {w : Int64} {p wi : Int32} {bt : Int64} (h : own_nI w p wi bt) (h0 : bt = 0) : own_bt w p = 0 := by
  rcases h with ⟨e, h⟩ | ⟨-, h, -⟩
  · rw [← h]; exact h0
  · exact h
theorem own_nI1 {w : Int64} {p wi : Int32} {bt : Int64} (h : own_nI w p wi bt) (h0 : ¬ bt = 0) : wi = 0 ∧ bt = own_bt w p ∧ ¬ own_bt w p = 0 := by
  rcases h with ⟨e, h⟩ | ⟨h, -⟩
  · exact ⟨e, h, h ▸ h0⟩
  · exact absurd h h0

/-! deliver: what its loops compute, by the lists of receivers -/
theorem own_Fmono {tb : Tables} {e : Env} {below : List Frame} {s : State} {Q Q' : Option Value → Heap → List Loc → Prop} {k n : Nat} {t : State} (h : ∀ v h L, Q v h L → Q' v h L) (q : own_Fin tb e below s Q k n t) : own_Fin tb e below s Q' k n t := by
  obtain ⟨s2, o, h1, h2, h3, v, L, h4, h5, h6⟩ := q
  exact ⟨s2, o, h1, h2, h3, v, L, h4, h _ _ _ h5, h6⟩
def own_in (r n : Int32) : Prop := ¬ r < 0 ∧ r < n
def own_n14 (n : Int32) : Prop := n = 1 ∨ n = 2 ∨ n = 3 ∨ n = 4
def own_tot (t : Int64) (L : List Int32) : Int64 := t + (Int32.ofNat L.length).toInt64
def own_cnt (E : Nat → Int32) (L : List Int32) : Nat → Int32 := L.foldl (fun e r => own_set e r (e r.toNatClampNeg + 1)) E
def own_or (w : Int64) (L : List Int32) : Int64 := L.foldl (fun w r => w ||| own_lshl (1 : Int64) r) w
def own_b (b : Int32) (L : List Int32) : Int32 := match L with
  | [] => b
  | _ :: _ => 1
def own_gi (b : Int32) (fi : Nat → Int32) (L : List Int32) : Nat → Int32 := match L with
  | [] => fi
  | _ :: _ => if b = 0 then own_set fi (0 : Int32) (0 : Int32) else fi
def own_I2 (E : Nat → Int32) (w : Int64) (b : Int32) (fi : Nat → Int32) (L : List Int32) (i : Int32) (eL : Nat → Int32) (wL : Int64) (bL : Int32) (fL : Nat → Int32) : Prop :=
  (¬ i < 0 ∧ i.toNatClampNeg ≤ L.length) ∧ (b = 0 ∨ b = 1) ∧ eL = own_cnt E (L.take i.toNatClampNeg) ∧ wL = own_or w (L.take i.toNatClampNeg) ∧ bL = own_b b (L.take i.toNatClampNeg) ∧ fL = own_gi b fi (L.take i.toNatClampNeg)
def own_I3 (E : Nat → Int32) (L : List Int32) (i : Int32) (eL : Nat → Int32) : Prop := (¬ i < 0 ∧ i.toNatClampNeg ≤ L.length) ∧ eL = own_cnt E (L.take i.toNatClampNeg)
section OwnG
variable {E eL fi fL gg : Nat → Int32} {w wL : Int64} {b bL i n r : Int32} {L L0 L1 : List Int32} {kA : Nat}
theorem own_len32 (hl : L.length ≤ 4) : (Int32.ofNat L.length).toInt = L.length := by
  generalize L.length = n at hl
  match n, hl with
  | 0, _ => rfl
  | 1, _ => rfl
  | 2, _ => rfl
  | 3, _ => rfl
  | 4, _ => rfl
theorem own_ilt (hl : L.length ≤ 4) (h0 : ¬ i < 0) (hc : i < Int32.ofNat L.length) : i.toNatClampNeg < L.length ∧ (i + 1).toNatClampNeg = i.toNatClampNeg + 1 ∧ ¬ (i + 1) < 0 := by
  have e := own_succ h0 hc
  rw [Int32.lt_iff_toInt_lt] at h0 hc
  rw [own_len32 hl] at hc
  have k0 : (0 : Int32).toInt = 0 := by decide
  refine ⟨by simp only [Int32.toNatClampNeg]; omega, by simp only [Int32.toNatClampNeg, e]; omega, ?_⟩
  rw [Int32.lt_iff_toInt_lt, e]; omega
theorem own_ige (hl : L.length ≤ 4) (h0 : ¬ i < 0 ∧ i.toNatClampNeg ≤ L.length) (hc : ¬ i < Int32.ofNat L.length) : i.toNatClampNeg = L.length := by
  obtain ⟨h0, h1⟩ := h0
  rw [Int32.lt_iff_toInt_lt] at h0 hc
  rw [own_len32 hl] at hc
  have k0 : (0 : Int32).toInt = 0 := by decide
  simp only [Int32.toNatClampNeg] at h1 ⊢
  omega
theorem own_i16 (hl : L.length ≤ 4) (h0 : ¬ i < 0) (hc : i < Int32.ofNat L.length) : ¬ i < 0 ∧ i < (16 : Int32) := by
  refine ⟨h0, ?_⟩
  rw [Int32.lt_iff_toInt_lt] at hc ⊢
  rw [own_len32 hl] at hc
  have k : (16 : Int32).toInt = 16 := by decide
  omega
theorem own_ib (hl : L.length ≤ 4) (hI : own_I2 E w b fi L i eL wL bL fL) (hc : i < Int32.ofNat L.length) : ¬ i < 0 ∧ i < (16 : Int32) := own_i16 hl hI.1.1 hc
theorem own_ib3 (hl : L.length ≤ 4) (hI : own_I3 E L i eL) (hc : i < Int32.ofNat L.length) : ¬ i < 0 ∧ i < (16 : Int32) := own_i16 hl hI.1.1 hc
theorem own_gmem (hl : L.length ≤ 4) (hg : ∀ i, i < L.length → gg i = L.getD i 0) (h0 : ¬ i < 0) (hc : i < Int32.ofNat L.length) : gg i.toNatClampNeg ∈ L := by
  have h := (own_ilt hl h0 hc).1
  rw [hg _ h]; simp [List.getD, h]
theorem own_gi_mem (hl : L.length ≤ 4) (hg : ∀ i, i < L.length → gg i = L.getD i 0) (hI : own_I2 E w b fi L i eL wL bL fL) (hc : i < Int32.ofNat L.length) : gg i.toNatClampNeg ∈ L := own_gmem hl hg hI.1.1 hc
theorem own_gi_mem3 (hl : L.length ≤ 4) (hg : ∀ i, i < L.length → gg i = L.getD i 0) (hI : own_I3 E L i eL) (hc : i < Int32.ofNat L.length) : gg i.toNatClampNeg ∈ L := own_gmem hl hg hI.1.1 hc
theorem own_mem0 (hm : ∀ r ∈ L0 ++ L1, own_in r n) (h : r ∈ L0) : ¬ r < 0 ∧ r < n := hm r (List.mem_append_left _ h)
theorem own_mem1 (hm : ∀ r ∈ L0 ++ L1, own_in r n) (h : r ∈ L1) : ¬ r < 0 ∧ r < n := hm r (List.mem_append_right _ h)
theorem own_n3i (hn : own_n14 n) (h : ¬ r < 0 ∧ r < n) : own_n3 r := by
  obtain ⟨h1, h2⟩ := h
  rw [Int32.lt_iff_toInt_lt] at h1 h2
  have k0 : (0 : Int32).toInt = 0 := by decide
  have hr : 0 ≤ r.toInt ∧ r.toInt < 4 := by
    rcases hn with rfl | rfl | rfl | rfl
    · have : (1 : Int32).toInt = 1 := by decide
      omega
    · have : (2 : Int32).toInt = 2 := by decide
      omega
    · have : (3 : Int32).toInt = 3 := by decide
      omega
    · have : (4 : Int32).toInt = 4 := by decide
      omega
  have e : r = Int32.ofInt r.toInt := (Int32.ofInt_toInt r).symm
  generalize r.toInt = z at *
  rw [e]
  have : z = 0 ∨ z = 1 ∨ z = 2 ∨ z = 3 := by omega
  rcases this with rfl | rfl | rfl | rfl
  · exact Or.inl rfl
  · exact Or.inr (Or.inl rfl)
  · exact Or.inr (Or.inr (Or.inl rfl))
  · exact Or.inr (Or.inr (Or.inr rfl))
theorem own_bv (L : List Int32) : own_b 0 L = 0 ∨ own_b 0 L = 1 := by cases L; exact Or.inl rfl; exact Or.inr rfl
theorem own_I20 (hb : b = 0 ∨ b = 1) : own_I2 E w b fi L 0 E w b fi := ⟨⟨by decide, Nat.zero_le _⟩, hb, rfl, rfl, rfl, rfl⟩
theorem own_I30 (E : Nat → Int32) (L : List Int32) : own_I3 E L 0 E := ⟨⟨by decide, Nat.zero_le _⟩, rfl⟩
theorem own_bc (hI : own_I2 E w b fi L i eL wL bL fL) : bL = 0 ∨ bL = 1 := by
  obtain ⟨-, hb, -, -, h, -⟩ := hI
  rw [h]
  cases L.take i.toNatClampNeg
  · exact hb
  · exact Or.inr rfl
theorem own_I2m (hl : L.length ≤ 4) (hI : own_I2 E w b fi L i eL wL bL fL) (hc : i < Int32.ofNat L.length) (hk : kA = L.length - i.toNatClampNeg) : L.length - (i + 1).toNatClampNeg < kA := by
  have := own_ilt hl hI.1.1 hc; omega
theorem own_I2m3 (hl : L.length ≤ 4) (hI : own_I3 E L i eL) (hc : i < Int32.ofNat L.length) (hk : kA = L.length - i.toNatClampNeg) : L.length - (i + 1).toNatClampNeg < kA := by
  have := own_ilt hl hI.1.1 hc; omega
theorem own_tk (hl : L.length ≤ 4) (hg : ∀ i, i < L.length → gg i = L.getD i 0) (h0 : ¬ i < 0) (hc : i < Int32.ofNat L.length) : L.take (i + 1).toNatClampNeg = L.take i.toNatClampNeg ++ [gg i.toNatClampNeg] := by
  obtain ⟨h1, h2, -⟩ := own_ilt hl h0 hc
  rw [h2, hg _ h1, List.take_add_one]
  simp [List.getD, h1]
theorem own_cnts (E : Nat → Int32) (P : List Int32) (r : Int32) : own_cnt E (P ++ [r]) = own_set (own_cnt E P) r (own_cnt E P r.toNatClampNeg + 1) := by simp [own_cnt, List.foldl_append]
theorem own_ors (w : Int64) (P : List Int32) (r : Int32) : own_or w (P ++ [r]) = own_or w P ||| own_lshl (1 : Int64) r := by simp [own_or, List.foldl_append]
theorem own_bs (b : Int32) (P : List Int32) (r : Int32) : own_b b (P ++ [r]) = 1 := by cases P <;> rfl
theorem own_I2s0 (hl : L.length ≤ 4) (hg : ∀ i, i < L.length → gg i = L.getD i 0) (hI : own_I2 E w b fi L i eL wL bL fL) (hc : i < Int32.ofNat L.length) (hv : bL = 0) : own_I2 E w b fi L (i + 1) (own_set eL (gg i.toNatClampNeg) (eL (gg i.toNatClampNeg).toNatClampNeg + 1)) (wL ||| own_lshl (1 : Int64) (gg i.toNatClampNeg)) 1 (own_set fL (0 : Int32) (0 : Int32)) := by
  obtain ⟨⟨h0, h1⟩, hb, e1, e2, e3, e4⟩ := hI
  have t := own_tk hl hg h0 hc
  obtain ⟨q1, q2, q3⟩ := own_ilt hl h0 hc
  have e5 : own_b b (L.take i.toNatClampNeg) = 0 := e3.symm.trans hv
  refine ⟨⟨q3, by omega⟩, hb, by rw [t, own_cnts, e1], by rw [t, own_ors, e2], by rw [t, own_bs], ?_⟩
  rw [t, e4]
  cases hq : L.take i.toNatClampNeg with
  | nil => rw [hq] at e5; simp [own_gi, show b = 0 from e5]
  | cons x xs => rw [hq] at e5; exact absurd e5 (by simp [own_b])
theorem own_I2s1 (hl : L.length ≤ 4) (hg : ∀ i, i < L.length → gg i = L.getD i 0) (hI : own_I2 E w b fi L i eL wL bL fL) (hc : i < Int32.ofNat L.length) (hv : bL = 1) : own_I2 E w b fi L (i + 1) (own_set eL (gg i.toNatClampNeg) (eL (gg i.toNatClampNeg).toNatClampNeg + 1)) (wL ||| own_lshl (1 : Int64) (gg i.toNatClampNeg)) 1 fL := by
  obtain ⟨⟨h0, h1⟩, hb, e1, e2, e3, e4⟩ := hI
  have t := own_tk hl hg h0 hc
  obtain ⟨q1, q2, q3⟩ := own_ilt hl h0 hc
  have e5 : own_b b (L.take i.toNatClampNeg) = 1 := e3.symm.trans hv
  refine ⟨⟨q3, by omega⟩, hb, by rw [t, own_cnts, e1], by rw [t, own_ors, e2], by rw [t, own_bs], ?_⟩
  rw [t, e4]
  cases hq : L.take i.toNatClampNeg with
  | nil => rw [hq] at e5; simp [own_gi, show b = 1 from e5]
  | cons x xs => rfl
theorem own_I2x (hl : L.length ≤ 4) (hI : own_I2 E w b fi L i eL wL bL fL) (hc : ¬ i < Int32.ofNat L.length) : eL = own_cnt E L ∧ wL = own_or w L ∧ bL = own_b b L ∧ fL = own_gi b fi L := by
  have q := own_ige hl hI.1 hc
  obtain ⟨-, -, e1, e2, e3, e4⟩ := hI
  rw [q, List.take_length] at e1 e2 e3 e4
  exact ⟨e1, e2, e3, e4⟩
theorem own_I3s (hl : L.length ≤ 4) (hg : ∀ i, i < L.length → gg i = L.getD i 0) (hI : own_I3 E L i eL) (hc : i < Int32.ofNat L.length) : own_I3 E L (i + 1) (own_set eL (gg i.toNatClampNeg) (eL (gg i.toNatClampNeg).toNatClampNeg + 1)) := by
  obtain ⟨⟨h0, h1⟩, e1⟩ := hI
  have t := own_tk hl hg h0 hc
  obtain ⟨q1, q2, q3⟩ := own_ilt hl h0 hc
  exact ⟨⟨q3, by omega⟩, by rw [t, own_cnts, e1]⟩
theorem own_I3x (hl : L.length ≤ 4) (hI : own_I3 E L i eL) (hc : ¬ i < Int32.ofNat L.length) : eL = own_cnt E L := by
  have q := own_ige hl hI.1 hc
  have e := hI.2
  rw [q, List.take_length] at e; exact e
theorem own_n14n (hn : own_n14 n) : ¬ n < 0 := by rcases hn with rfl | rfl | rfl | rfl <;> decide
theorem own_n14c (hn : own_n14 n) : n.toNatClampNeg ≤ 4 := by rcases hn with rfl | rfl | rfl | rfl <;> decide
def own_tt (a b : Nat) : Int64 := (0 : Int64) + (Int32.ofNat a).toInt64 + (Int32.ofNat b).toInt64
theorem own_ttf : ∀ a : Fin 5, ∀ b : Fin 5, a.1 + b.1 ≤ 4 → ¬ (2147483639 : Int64) < own_tt a.1 b.1 ∧ (own_tt a.1 b.1).toInt32 = Int32.ofNat (a.1 + b.1) ∧ (own_tt a.1 b.1 = 0 ↔ a.1 + b.1 = 0) := by decide +kernel
theorem own_ttl (hl : L0.length + L1.length ≤ 3) : ¬ (2147483639 : Int64) < own_tot (own_tot 0 L0) L1 ∧ (own_tot (own_tot 0 L0) L1).toInt32 = Int32.ofNat (L0 ++ L1).length ∧ (own_tot (own_tot 0 L0) L1 = 0 ↔ L0 ++ L1 = []) := by
  have q := own_ttf ⟨L0.length, by omega⟩ ⟨L1.length, by omega⟩ (by show L0.length + L1.length ≤ 4; omega)
  refine ⟨q.1, by rw [List.length_append]; exact q.2.1, q.2.2.trans ?_⟩
  show L0.length + L1.length = 0 ↔ _
  rw [← List.length_append]; exact List.length_eq_zero_iff
theorem own_totm (hl : L0.length + L1.length ≤ 3) : ¬ (2147483639 : Int64) < own_tot (own_tot 0 L0) L1 := (own_ttl hl).1
theorem own_tot0 (hz : L0 ++ L1 = []) : own_tot (own_tot 0 L0) L1 = 0 := by
  obtain ⟨rfl, rfl⟩ := List.append_eq_nil_iff.mp hz; decide
theorem own_tot1 (hl : L0.length + L1.length ≤ 3) (hz : L0 ++ L1 ≠ []) : ¬ own_tot (own_tot 0 L0) L1 = 0 := fun q => hz ((own_ttl hl).2.2.mp q)
theorem own_nz (hl : L0.length + L1.length ≤ 3) (h : ¬ own_tot (own_tot 0 L0) L1 = 0) : L0 ++ L1 ≠ [] := fun q => h (own_tot0 q)
theorem own_z0 (hl : L0.length + L1.length ≤ 3) (h : own_tot (own_tot 0 L0) L1 = 0) : L0 ++ L1 = [] := (own_ttl hl).2.2.mp h
theorem own_dl3 {L : List Int32} (hl : L.length ≤ 3) : ¬ Int32.ofNat L.length < 0 ∧ (Int32.ofNat L.length).toNatClampNeg ≤ 4 := by
  generalize L.length = n at hl
  match n, hl with
  | 0, _ => decide
  | 1, _ => decide
  | 2, _ => decide
  | 3, _ => decide
theorem own_dl0 (hl : L0.length + L1.length ≤ 3) : ¬ (own_tot (own_tot 0 L0) L1).toInt32 < 0 := by rw [(own_ttl hl).2.1]; exact (own_dl3 (by rw [List.length_append]; exact hl)).1
theorem own_dl1 (hl : L0.length + L1.length ≤ 3) : (own_tot (own_tot 0 L0) L1).toInt32.toNatClampNeg ≤ 4 := by rw [(own_ttl hl).2.1]; exact (own_dl3 (by rw [List.length_append]; exact hl)).2
theorem own_b2 (hz : L0 ++ L1 ≠ []) : own_b (own_b 0 L0) L1 = 1 := by
  cases L1 with
  | cons => rfl
  | nil => cases L0 with
    | nil => exact absurd rfl hz
    | cons => rfl
theorem own_f2 (hz : L0 ++ L1 ≠ []) : own_gi (own_b 0 L0) (own_gi 0 fi L0) L1 0 = 0 := by
  cases L1 with
  | cons => cases L0 with
    | nil => rfl
    | cons => rfl
  | nil => cases L0 with
    | nil => exact absurd rfl hz
    | cons => rfl
def own_dr (L0 L1 : List Int32) : Int32 := if L0 ++ L1 = [] then 0 else 1
theorem own_dr0 (hl : L0.length + L1.length ≤ 3) (h : own_tot (own_tot 0 L0) L1 = 0) : (some (Value.int 0) : Option Value) = some (.int (own_dr L0 L1)) := by
  unfold own_dr; rw [if_pos (own_z0 hl h)]
end OwnG

theorem own_wS {Z : State} {a0 : Array Value} (hw : ∀ d ∈ tables_1, d.before a0 Z = true) : ∀ a ∈ Bundle.stringAtoms, a.before a0 Z = true := by
  intro a ha
  simp only [Bundle.stringAtoms, Bundle.sN, List.mem_cons, List.not_mem_nil, or_false] at ha
  rcases ha with rfl | rfl | rfl | rfl | rfl | rfl | rfl
  · first | exact (hw _ (List.mem_of_getElem? (i := 5) rfl)) | exact (hw _ (List.mem_of_getElem? (i := 6) rfl)) | exact (hw _ (List.mem_of_getElem? (i := 7) rfl)) | exact (hw _ (List.mem_of_getElem? (i := 8) rfl)) | exact (hw _ (List.mem_of_getElem? (i := 9) rfl)) | exact (hw _ (List.mem_of_getElem? (i := 10) rfl)) | exact (hw _ (List.mem_of_getElem? (i := 11) rfl))
  · first | exact (hw _ (List.mem_of_getElem? (i := 5) rfl)) | exact (hw _ (List.mem_of_getElem? (i := 6) rfl)) | exact (hw _ (List.mem_of_getElem? (i := 7) rfl)) | exact (hw _ (List.mem_of_getElem? (i := 8) rfl)) | exact (hw _ (List.mem_of_getElem? (i := 9) rfl)) | exact (hw _ (List.mem_of_getElem? (i := 10) rfl)) | exact (hw _ (List.mem_of_getElem? (i := 11) rfl))
  · first | exact (hw _ (List.mem_of_getElem? (i := 5) rfl)) | exact (hw _ (List.mem_of_getElem? (i := 6) rfl)) | exact (hw _ (List.mem_of_getElem? (i := 7) rfl)) | exact (hw _ (List.mem_of_getElem? (i := 8) rfl)) | exact (hw _ (List.mem_of_getElem? (i := 9) rfl)) | exact (hw _ (List.mem_of_getElem? (i := 10) rfl)) | exact (hw _ (List.mem_of_getElem? (i := 11) rfl))
  · first | exact (hw _ (List.mem_of_getElem? (i := 5) rfl)) | exact (hw _ (List.mem_of_getElem? (i := 6) rfl)) | exact (hw _ (List.mem_of_getElem? (i := 7) rfl)) | exact (hw _ (List.mem_of_getElem? (i := 8) rfl)) | exact (hw _ (List.mem_of_getElem? (i := 9) rfl)) | exact (hw _ (List.mem_of_getElem? (i := 10) rfl)) | exact (hw _ (List.mem_of_getElem? (i := 11) rfl))
  · first | exact (hw _ (List.mem_of_getElem? (i := 5) rfl)) | exact (hw _ (List.mem_of_getElem? (i := 6) rfl)) | exact (hw _ (List.mem_of_getElem? (i := 7) rfl)) | exact (hw _ (List.mem_of_getElem? (i := 8) rfl)) | exact (hw _ (List.mem_of_getElem? (i := 9) rfl)) | exact (hw _ (List.mem_of_getElem? (i := 10) rfl)) | exact (hw _ (List.mem_of_getElem? (i := 11) rfl))
  · first | exact (hw _ (List.mem_of_getElem? (i := 5) rfl)) | exact (hw _ (List.mem_of_getElem? (i := 6) rfl)) | exact (hw _ (List.mem_of_getElem? (i := 7) rfl)) | exact (hw _ (List.mem_of_getElem? (i := 8) rfl)) | exact (hw _ (List.mem_of_getElem? (i := 9) rfl)) | exact (hw _ (List.mem_of_getElem? (i := 10) rfl)) | exact (hw _ (List.mem_of_getElem? (i := 11) rfl))
  · first | exact (hw _ (List.mem_of_getElem? (i := 5) rfl)) | exact (hw _ (List.mem_of_getElem? (i := 6) rfl)) | exact (hw _ (List.mem_of_getElem? (i := 7) rfl)) | exact (hw _ (List.mem_of_getElem? (i := 8) rfl)) | exact (hw _ (List.mem_of_getElem? (i := 9) rfl)) | exact (hw _ (List.mem_of_getElem? (i := 10) rfl)) | exact (hw _ (List.mem_of_getElem? (i := 11) rfl))
def own_EL : List (String × Nat) := []
theorem own_EW {Z : State} {a0 : Array Value} (hw : ∀ d ∈ tables_1, d.before a0 Z = true) : EW Z a0 own_EL := EW.nil
abbrev oC0 : String := "com/example/lockstep/lockstep/engine/AddressedMessages"
abbrev oC1 : String := "com/example/lockstep/lockstep/engine/VertexSet"
abbrev oC2 : String := "com/example/lockstep/lockstep/engine/AddressedMessages$Outbox"
abbrev oC3 : String := "com/example/lockstep/lockstep/engine/IndexList"
abbrev oC4 : String := "[Lcom/example/lockstep/lockstep/engine/AddressedMessages$Outbox;"
abbrev oC5 : String := "Lcom/example/lockstep/lockstep/engine/IndexList;"
abbrev oC6 : String := "Lcom/example/lockstep/lockstep/engine/VertexSet;"
abbrev oC7 : String := "com/example/lockstep/lockstep/engine/AddressedMessagesFirstPinLaw"
abbrev oC8 : String := "Lcom/example/lockstep/lockstep/engine/AddressedMessages;"
abbrev oC9 : String := "com/example/lockstep/lockstep/engine/Engine"
abbrev oC10 : String := "java/util/Arrays"
abbrev oC11 : String := "Ljava/lang/String;"
abbrev oC12 : String := "java/lang/String"
theorem oW {Z : State} {a0 : Array Value} {d : Jvm.Cond} (hw : ∀ d ∈ tables_1, d.before a0 Z = true) (i : Nat) (h : tables_1[i]? = some d) : d.before a0 Z = true := hw _ (List.mem_of_getElem? h)
abbrev oM0 : MethodName := ⟨"com/example/lockstep/lockstep/engine/Engine", "blockCount", "(I)I"⟩
abbrev oM1 : MethodName := ⟨"java/lang/Math", "min", "(JJ)J"⟩
abbrev oM2 : MethodName := ⟨"com/example/lockstep/lockstep/engine/Engine", "blockEnd", "(II)I"⟩
abbrev oM3 : MethodName := ⟨"java/lang/Integer", "numberOfTrailingZeros", "(I)I"⟩
abbrev oM4 : MethodName := ⟨"java/lang/Long", "numberOfTrailingZeros", "(J)I"⟩
abbrev oM5 : MethodName := ⟨"com/example/lockstep/lockstep/engine/IndexList", "<init>", "()V"⟩
abbrev oM6 : MethodName := ⟨"com/example/lockstep/lockstep/engine/IndexList", "size", "()I"⟩
abbrev oM7 : MethodName := ⟨"com/example/lockstep/lockstep/engine/IndexList", "get", "(I)I"⟩
abbrev oM8 : MethodName := ⟨"com/example/lockstep/lockstep/engine/IndexList", "clear", "()V"⟩
abbrev oM9 : MethodName := ⟨"com/example/lockstep/lockstep/engine/IndexList", "add", "(I)V"⟩
abbrev oM10 : MethodName := ⟨"com/example/lockstep/lockstep/engine/VertexSet", "<init>", "(I)V"⟩
abbrev oM11 : MethodName := ⟨"com/example/lockstep/lockstep/engine/VertexSet", "blockCount", "()I"⟩
abbrev oM12 : MethodName := ⟨"com/example/lockstep/lockstep/engine/VertexSet", "sort", "()V"⟩
abbrev oM13 : MethodName := ⟨"com/example/lockstep/lockstep/engine/VertexSet", "block", "(I)I"⟩
abbrev oM14 : MethodName := ⟨"java/util/Arrays", "rangeCheck", "(III)V"⟩
abbrev oM15 : MethodName := ⟨"java/util/Arrays", "fill", "([IIII)V"⟩
abbrev oM16 : MethodName := ⟨"java/util/Arrays", "fill", "([JIIJ)V"⟩
abbrev oM17 : MethodName := ⟨"com/example/lockstep/lockstep/engine/VertexSet", "clear", "()V"⟩
abbrev oM18 : MethodName := ⟨"com/example/lockstep/lockstep/engine/VertexSet", "hold", "(I)V"⟩
abbrev oM19 : MethodName := ⟨"com/example/lockstep/lockstep/engine/VertexSet", "add", "(I)V"⟩
abbrev oM20 : MethodName := ⟨"com/example/lockstep/lockstep/engine/VertexSet", "next", "(II)I"⟩
abbrev oM21 : MethodName := ⟨"com/example/lockstep/lockstep/engine/AddressedMessages$Outbox", "<init>", "(Lcom/example/lockstep/lockstep/engine/AddressedMessages;)V"⟩
abbrev oM22 : MethodName := ⟨"com/example/lockstep/lockstep/engine/AddressedMessages$Outbox", "add", "(IIJ)V"⟩
abbrev oM23 : MethodName := ⟨"com/example/lockstep/lockstep/engine/AddressedMessages", "send", "(IIIJ)V"⟩
abbrev oM24 : MethodName := ⟨"com/example/lockstep/lockstep/engine/AddressedMessages", "deliver", "(I)Z"⟩
abbrev oM25 : MethodName := ⟨"com/example/lockstep/lockstep/engine/AddressedMessages", "first", "(I)I"⟩
abbrev oM26 : MethodName := ⟨"com/example/lockstep/lockstep/engine/AddressedMessages", "end", "(I)I"⟩
abbrev oM27 : MethodName := ⟨"com/example/lockstep/lockstep/engine/AddressedMessages", "<init>", "(IILjava/lang/String;)V"⟩
abbrev oM28 : MethodName := ⟨"com/example/lockstep/lockstep/engine/AddressedMessagesFirstPinLaw", "hit", "(ZII)I"⟩
abbrev oM29 : MethodName := ⟨"com/example/lockstep/lockstep/engine/AddressedMessagesFirstPinLaw", "below", "(ZII)I"⟩
abbrev oM30 : MethodName := ⟨"com/example/lockstep/lockstep/engine/AddressedMessagesFirstPinLaw", "check", "(IIIII)Z"⟩
abbrev oD0 : ByteArray := prog_22_method_11_code
abbrev oD1 : ByteArray := jdk_29_method_70_code
abbrev oD2 : ByteArray := prog_22_method_12_code
abbrev oD3 : ByteArray := jdk_33_method_48_code
abbrev oD4 : ByteArray := jdk_35_method_49_code
abbrev oD5 : ByteArray := prog_26_method_1_code
abbrev oD6 : ByteArray := prog_26_method_3_code
abbrev oD7 : ByteArray := prog_26_method_4_code
abbrev oD8 : ByteArray := prog_26_method_7_code
abbrev oD9 : ByteArray := prog_26_method_2_code
abbrev oD10 : ByteArray := prog_49_method_1_code
abbrev oD11 : ByteArray := prog_49_method_6_code
abbrev oD12 : ByteArray := prog_49_method_5_code
abbrev oD13 : ByteArray := prog_49_method_7_code
abbrev oD14 : ByteArray := jdk_65_method_30_code
abbrev oD15 : ByteArray := jdk_65_method_104_code
abbrev oD16 : ByteArray := jdk_65_method_102_code
abbrev oD17 : ByteArray := prog_49_method_9_code
abbrev oD18 : ByteArray := prog_49_method_4_code
abbrev oD19 : ByteArray := prog_49_method_2_code
abbrev oD20 : ByteArray := prog_49_method_8_code
abbrev oD21 : ByteArray := prog_19_method_1_code
abbrev oD22 : ByteArray := prog_19_method_2_code
abbrev oD23 : ByteArray := prog_18_method_2_code
abbrev oD24 : ByteArray := prog_18_method_9_code
abbrev oD25 : ByteArray := prog_18_method_3_code
abbrev oD26 : ByteArray := prog_18_method_4_code
abbrev oD27 : ByteArray := prog_18_method_1_code
abbrev oD28 : ByteArray := method_2_code
abbrev oD29 : ByteArray := method_3_code
abbrev oD30 : ByteArray := method_4_code
abbrev oQ (c : ByteArray) (p : Nat) (i : Instr) (n : Nat) : Prop := decode c p = .ok (i, n)
abbrev oH (Z : State) (a0 : Array Value) : Prop := ∀ d ∈ tables_1, d.before a0 Z = true
abbrev oO (Z : State) (C n d : String) : Nat := Jvm.RoadKit.slotOf Z C n d
abbrev oI (x : Int32) : Slot := .val (.int x)
abbrev oJ (x : Int64) : Slot := .val (.long x)
abbrev oR (x : Addr) : Slot := .val (.ref x)
abbrev oU : Slot := .unset
abbrev oS : Slot := .second
abbrev oF {tb : Tables} {e : Env} {below : List Frame} {s : State} {Q : Option Value → Heap → List Loc → Prop} {k n : Nat} (t : State) : Prop := own_Fin tb e below s Q k n t
abbrev oG {Z : State} {EL : List (String × Nat)} {tb : Tables} {e : Env} {below : List Frame} {s : State} {Q : Option Value → Heap → List Loc → Prop} {k n : Nat} (t : State) : Prop := own_FinW Z EL tb e below s Q k n t
theorem d3_0 : oQ oD0 0 (.iload_n 0) 1 := by decide +kernel
theorem d3_1 : oQ oD0 1 (.sipush 1024) 3 := by decide +kernel
theorem d3_4 : oQ oD0 4 .iadd 1 := by decide +kernel
theorem d3_5 : oQ oD0 5 (.iconst 1) 1 := by decide +kernel
theorem d3_6 : oQ oD0 6 .isub 1 := by decide +kernel
theorem d3_7 : oQ oD0 7 (.sipush 1024) 3 := by decide +kernel
theorem d3_10 : oQ oD0 10 .idiv 1 := by decide +kernel
theorem d3_11 : oQ oD0 11 .ireturn 1 := by decide +kernel
theorem pn_3 : plainName oC9 = true := by first | (simp [plainName, overriddenIn]; done) | decide +kernel
theorem ef_3 (m : MethodId) (p0 : Int32) : entryFrame m #[(.int p0)] 1 = mkF m 0 #[oI p0] [] := by first | (simp [entryFrame, mkF, argsToLocals, Value.category]; done) | rfl
def own_rm3_room : Room := { frames := 0, cells := 0, slots := 0, locals := 0 }
def own_f3 (p0 : Int32) : Int32 := (((p0 + (1024 : Int32)) - (1 : Int32)) / (1024 : Int32))
theorem own_lf_own_f3_1 {p0 : Int32} : (some (.int (((p0 + (1024 : Int32)) - (1 : Int32)) / (1024 : Int32))) : Option Value) = some (.int (own_f3 p0)) := by
  first | rfl | (simp only [own_f3]; done) | (simp only [own_f3]; rfl)
set_option maxRecDepth 65536 in
set_option maxHeartbeats 40000000 in
theorem rm3 (l : Launch) (Z : State) (a0 : Array Value) (hw : oH Z a0) (ws : List Jvm.Cond) (p0 : Int32) (h0 : Heap) (n0 : Nat) (Z0 : n0 ≤ h0.size) :
    MetFree l oM0 (head1 (Jvm.Cond.code oM0 prog_22_method_11_code 1 (some .int) :: ws) own_rm3_room) (fun a U => a = #[(.int p0)] ∧ Z.Warmed39 U.vm ∧ U.heap = h0) (fun _ _ _ _ _ => True) (fun _ U o U' => ∃ v L, o = .returned v ∧ own_QP (some (.int (own_f3 p0))) h0 n0 v U'.heap L ∧ FrameEnd U o U' L own_rm3_room.cells own_rm3_room.slots) := by
 refine MetFree.of_bodySF (plainFor_of_name pn_3) hisR ?_
 intro p e s m args below meth c s₁ Bd hml0 hP hK
 obtain ⟨rfl, hZ, hh⟩ := hP
 have hx := Bd.exec
 have hby := Bd.bytes
 have hml : c.maxLocals = 1 := hml0
 have hown : s.vm.findClass oC9 = some m.cls := findClass_of_methodNamed Bd.named
 have hnm := (name_of_methodNamed Bd.named Bd.method).1
 have hlk : meth.locks = false := BodyLoose.notSynchronized Bd
 have X0 : Stand p l e own_rm3_room s m #[(.int p0)] below meth c s₁ [] 0 0 := Stand.of_body Bd
 have e0 : s₁.heap = h0 := by rw [← hh, Bd.state]; rfl
 have N0 := Fr.nil n0
 show own_Fin p.tables e below s (own_QP (some (.int (own_f3 p0))) h0 n0) own_rm3_room.cells own_rm3_room.slots (s₁.setTop (entryFrame m #[(.int p0)] 1))
 rw [ef_3]
 show oF (s₁.setTop (mkF m 0 #[oI p0] []))
 refine own_go (fun _ k => XS.iloadN X0.here hx rfl (hb hby d3_0) rfl (XS.sipush X0.here hx rfl (hb hby d3_1) (XS.iadd X0.here hx rfl (hb hby d3_4) rfl (XS.iconst X0.here hx rfl (hb hby d3_5) (XS.isub X0.here hx rfl (hb hby d3_6) rfl (XS.sipush X0.here hx rfl (hb hby d3_7) (XS.idiv X0.here hx rfl (hb hby d3_10) rfl (by decide) k))))))) ?_
 refine own_ret X0 hx hlk Bd.returns rfl (Or.inl ⟨rfl, by simp, _, rfl⟩) (hb hby d3_11) (Nat.le_of_ble_eq_true rfl) (Nat.le_of_ble_eq_true rfl) ?_
 exact ⟨(own_lf_own_f3_1 (p0 := p0)), N0, e0⟩
theorem d29_0 : oQ oD1 0 (.lload_n 0) 1 := by decide +kernel
theorem d29_1 : oQ oD1 1 (.lload_n 2) 1 := by decide +kernel
theorem d29_2 : oQ oD1 2 .lcmp 1 := by decide +kernel
theorem d29_3 : oQ oD1 3 (.ifCond .gt 7) 3 := by decide +kernel
theorem d29_6 : oQ oD1 6 (.lload_n 0) 1 := by decide +kernel
theorem d29_7 : oQ oD1 7 (.goto 4) 3 := by decide +kernel
theorem d29_10 : oQ oD1 10 (.lload_n 2) 1 := by decide +kernel
theorem d29_11 : oQ oD1 11 .lreturn 1 := by decide +kernel
theorem ef_29 (m : MethodId) (q0 : Int64) (q1 : Int64) : entryFrame m #[(.long q0), (.long q1)] 4 = mkF m 0 #[oJ q0, oS, oJ q1, oS] [] := by first | (simp [entryFrame, mkF, argsToLocals, Value.category]; done) | rfl
def own_rm29_room : Room := { frames := 0, cells := 0, slots := 0, locals := 0 }
def own_f29 (q0 : Int64) (q1 : Int64) : Int64 := (if q1 < q0 then (q1) else (q0))
theorem own_lf_own_f29_1 {q0 : Int64} {q1 : Int64} (hc1 : q1 < q0) : (some (.long q1) : Option Value) = some (.long (own_f29 q0 q1)) := by
  first | (simp only [own_f29, if_pos hc1]; done) | (simp only [own_f29, if_pos hc1]; rfl) | rfl
theorem own_lf_own_f29_2 {q0 : Int64} {q1 : Int64} (hc1 : ¬ (q1 < q0)) : (some (.long q0) : Option Value) = some (.long (own_f29 q0 q1)) := by
  first | (simp only [own_f29, if_neg hc1]; done) | (simp only [own_f29, if_neg hc1]; rfl) | rfl
set_option maxRecDepth 65536 in
set_option maxHeartbeats 40000000 in
theorem rm29 (l : Launch) (Z : State) (a0 : Array Value) (hw : oH Z a0) (ws : List Jvm.Cond) (q0 : Int64) (q1 : Int64) (h0 : Heap) (n0 : Nat) (Z0 : n0 ≤ h0.size) :
    MetFree l oM1 (head1 (Jvm.Cond.code oM1 jdk_29_method_70_code 4 (some .long) :: ws) own_rm29_room) (fun a U => a = #[(.long q0), (.long q1)] ∧ Z.Warmed39 U.vm ∧ U.heap = h0) (fun _ _ _ _ _ => True) (fun _ U o U' => ∃ v L, o = .returned v ∧ own_QP (some (.long (own_f29 q0 q1))) h0 n0 v U'.heap L ∧ FrameEnd U o U' L own_rm29_room.cells own_rm29_room.slots) := by
 refine MetFree.of_bodySF (Jvm.Free.JP.mathPlain rfl (by decide +kernel)) hisR ?_
 intro p e s m args below meth c s₁ Bd hml0 hP hK
 obtain ⟨rfl, hZ, hh⟩ := hP
 have hx := Bd.exec
 have hby := Bd.bytes
 have hml : c.maxLocals = 4 := hml0
 have hown : s.vm.findClass "java/lang/Math" = some m.cls := findClass_of_methodNamed Bd.named
 have hnm := (name_of_methodNamed Bd.named Bd.method).1
 have hlk : meth.locks = false := BodyLoose.notSynchronized Bd
 have X0 : Stand p l e own_rm29_room s m #[(.long q0), (.long q1)] below meth c s₁ [] 0 0 := Stand.of_body Bd
 have e0 : s₁.heap = h0 := by rw [← hh, Bd.state]; rfl
 have N0 := Fr.nil n0
 show own_Fin p.tables e below s (own_QP (some (.long (own_f29 q0 q1))) h0 n0) own_rm29_room.cells own_rm29_room.slots (s₁.setTop (entryFrame m #[(.long q0), (.long q1)] 4))
 rw [ef_29]
 show oF (s₁.setTop (mkF m 0 #[oJ q0, oS, oJ q1, oS] []))
 refine own_go (fun _ k => XS.lloadN X0.here hx rfl (hb hby d29_0) rfl (XS.lloadN X0.here hx rfl (hb hby d29_1) rfl (XS.lcmp X0.here hx rfl (hb hby d29_2) rfl k))) ?_
 show oF (s₁.setTop (mkF m 3 #[oJ q0, oS, oJ q1, oS] [(.int (lcmpW q0 q1))]))
 by_cases hc1 : q1 < q0
 · refine own_go (fun _ k => XS.ifYes X0.here hx rfl (pc0 := 3) (pc' := 10) rfl (hb hby d29_3) rfl ((if0 _ _).trans (tlt ((lw_gt _ _).mpr hc1)).2.2.1) (by decide) (by decide) (XS.lloadN X0.here hx rfl (hb hby d29_10) rfl k)) ?_
   refine own_ret X0 hx hlk Bd.returns rfl (Or.inr (Or.inl ⟨rfl, rfl, _, rfl⟩)) (hb hby d29_11) (Nat.le_of_ble_eq_true rfl) (Nat.le_of_ble_eq_true rfl) ?_
   exact ⟨(own_lf_own_f29_1 (q0 := q0) (q1 := q1) hc1), N0, e0⟩
 · refine own_go (fun _ k => XS.ifNo X0.here hx rfl (hb hby d29_3) rfl ((if0 _ _).trans (flt (mt (lw_gt _ _).mp hc1)).2.2.1) (XS.lloadN X0.here hx rfl (hb hby d29_6) rfl (XS.goto X0.here hx rfl (pc0 := 7) (pc' := 11) rfl (hb hby d29_7) (by decide) (by decide) k))) ?_
   refine own_ret X0 hx hlk Bd.returns rfl (Or.inr (Or.inl ⟨rfl, rfl, _, rfl⟩)) (hb hby d29_11) (Nat.le_of_ble_eq_true rfl) (Nat.le_of_ble_eq_true rfl) ?_
   exact ⟨(own_lf_own_f29_2 (q0 := q0) (q1 := q1) hc1), N0, e0⟩
theorem own_pd20 : parseMethodDescriptor "(JJ)J" = some ⟨[.long, .long], some .long⟩ := by decide +kernel
theorem d28_0 : oQ oD2 0 (.iload_n 1) 1 := by decide +kernel
theorem d28_1 : oQ oD2 1 .i2l 1 := by decide +kernel
theorem d28_2 : oQ oD2 2 (.iload_n 0) 1 := by decide +kernel
theorem d28_3 : oQ oD2 3 (.iconst 1) 1 := by decide +kernel
theorem d28_4 : oQ oD2 4 .iadd 1 := by decide +kernel
theorem d28_5 : oQ oD2 5 .i2l 1 := by decide +kernel
theorem d28_6 : oQ oD2 6 (.ldc2_w 401) 3 := by decide +kernel
theorem d28_9 : oQ oD2 9 .lmul 1 := by decide +kernel
theorem d28_10 : oQ oD2 10 (.invokestatic 403) 3 := by decide +kernel
theorem d28_13 : oQ oD2 13 .l2i 1 := by decide +kernel
theorem d28_14 : oQ oD2 14 .ireturn 1 := by decide +kernel
theorem pn_28 : plainName oC9 = true := by first | (simp [plainName, overriddenIn]; done) | decide +kernel
theorem ef_28 (m : MethodId) (p0 : Int32) (p1 : Int32) : entryFrame m #[(.int p0), (.int p1)] 2 = mkF m 0 #[oI p0, oI p1] [] := by first | (simp [entryFrame, mkF, argsToLocals, Value.category]; done) | rfl
def own_rm28_room : Room := { frames := 1, cells := 0, slots := 0, locals := 15 }
def own_f28 (p0 : Int32) (p1 : Int32) : Int32 := ((own_f29 (p1.toInt64) (((p0 + (1 : Int32)).toInt64) * (1024 : Int64))).toInt32)
theorem own_lf_own_f28_1 {p0 : Int32} {p1 : Int32} : (some (.int ((own_f29 (p1.toInt64) (((p0 + (1 : Int32)).toInt64) * (1024 : Int64))).toInt32)) : Option Value) = some (.int (own_f28 p0 p1)) := by
  first | rfl | (simp only [own_f28]; done) | (simp only [own_f28]; rfl)
set_option maxRecDepth 65536 in
set_option maxHeartbeats 40000000 in
theorem rm28 (l : Launch) (Z : State) (a0 : Array Value) (hw : oH Z a0) (ws : List Jvm.Cond) (p0 : Int32) (p1 : Int32) (h0 : Heap) (n0 : Nat) (Z0 : n0 ≤ h0.size) :
    MetFree l oM2 (head1 (Jvm.Cond.code oM2 prog_22_method_12_code 2 (some .int) :: ws) own_rm28_room) (fun a U => a = #[(.int p0), (.int p1)] ∧ Z.Warmed39 U.vm ∧ U.heap = h0) (fun _ _ _ _ _ => True) (fun _ U o U' => ∃ v L, o = .returned v ∧ own_QP (some (.int (own_f28 p0 p1))) h0 n0 v U'.heap L ∧ FrameEnd U o U' L own_rm28_room.cells own_rm28_room.slots) := by
 refine MetFree.of_bodySF (plainFor_of_name pn_28) hisR ?_
 intro p e s m args below meth c s₁ Bd hml0 hP hK
 obtain ⟨rfl, hZ, hh⟩ := hP
 have hx := Bd.exec
 have hby := Bd.bytes
 have hml : c.maxLocals = 2 := hml0
 have hown : s.vm.findClass oC9 = some m.cls := findClass_of_methodNamed Bd.named
 have hnm := (name_of_methodNamed Bd.named Bd.method).1
 have hlk : meth.locks = false := BodyLoose.notSynchronized Bd
 have X0 : Stand p l e own_rm28_room s m #[(.int p0), (.int p1)] below meth c s₁ [] 0 0 := Stand.of_body Bd
 have e0 : s₁.heap = h0 := by rw [← hh, Bd.state]; rfl
 have N0 := Fr.nil n0
 show own_Fin p.tables e below s (own_QP (some (.int (own_f28 p0 p1))) h0 n0) own_rm28_room.cells own_rm28_room.slots (s₁.setTop (entryFrame m #[(.int p0), (.int p1)] 2))
 rw [ef_28]
 show oF (s₁.setTop (mkF m 0 #[oI p0, oI p1] []))
 refine own_go (fun _ k => XS.iloadN X0.here hx rfl (hb hby d28_0) rfl (XS.i2l X0.here hx rfl (hb hby d28_1) rfl k)) ?_
 show oF (s₁.setTop (mkF m 2 #[oI p0, oI p1] [(.long (p1.toInt64))]))
 refine own_go (fun _ k => XS.iloadN X0.here hx rfl (hb hby d28_2) rfl (XS.iconst X0.here hx rfl (hb hby d28_3) (XS.iadd X0.here hx rfl (hb hby d28_4) rfl (XS.i2l X0.here hx rfl (hb hby d28_5) rfl k)))) ?_
 show oF (s₁.setTop (mkF m 6 #[oI p0, oI p1] [(.long ((p0 + (1 : Int32)).toInt64)), (.long (p1.toInt64))]))
 refine own_go (fun _ k => X0.ldc2Long hx hown (mvT hZ (oW hw 194 rfl)) (g := (mkF m 6 #[oI p0, oI p1] [(.long ((p0 + (1 : Int32)).toInt64)), (.long (p1.toInt64))])) rfl (hb hby d28_6) _ k) ?_
 refine own_go (fun _ k => XS.lmul X0.here hx rfl (hb hby d28_9) rfl k) ?_
 obtain ⟨_, _, ⟨T1, L1, k1, n1⟩, -, X1, ⟨Lc1, hQ1, l1, y1, z1⟩, st1⟩ := Jvm.LawKit.callS X0 hx (y := oM1) hown (mvT hZ (oW hw 195 rfl)) (mvT hZ (oW hw 196 rfl)) (mvT hZ (oW hw 197 rfl)) (mvT hZ (oW hw 198 rfl)) (by decide) (backOf (W := 0) (rm29 l Z a0 hw [] (p1.toInt64) (((p0 + (1 : Int32)).toInt64) * (1024 : Int64)) h0 n0 Z0) hZ (oW hw 198 rfl) (oW hw 197 rfl) (by decide) (by decide)) (g := (mkF m 10 #[oI p0, oI p1] [(.long (((p0 + (1 : Int32)).toInt64) * (1024 : Int64))), (.long (p1.toInt64))])) rfl (by rw [hml]; rfl) (argsL := [(.long (p1.toInt64)), (.long (((p0 + (1 : Int32)).toInt64) * (1024 : Int64)))]) (rest := []) (lenOf own_pd20 rfl) rfl (by show 2 * 0 + _ ≤ _; exact Nat.le_of_eq rfl) (hb hby d28_10) (fun _ _ => ⟨rfl, e0, (by decide : 0 + 0 ≤ _), (by decide : 0 + 0 ≤ _)⟩)
 dsimp only [Pt.U, Pt.locs, Pt.cells, Pt.slots] at X1 l1 y1 z1 st1 hQ1
 replace y1 : 0 = k1 := y1.symm
 replace z1 : 0 = n1 := z1.symm
 subst y1 z1
 obtain ⟨rfl, N1q, e1⟩ := hQ1
 have N1 : Fr n0 L1 := by rw [l1]; exact Fr.app N0 N1q
 refine own_go (fun tg k => st1 tg k) ?_
 show oF (T1.setTop (mkF m 13 #[oI p0, oI p1] [(.long (own_f29 (p1.toInt64) (((p0 + (1 : Int32)).toInt64) * (1024 : Int64))))]))
 refine own_go (fun _ k => XS.l2i X1.here hx rfl (hb hby d28_13) rfl k) ?_
 show oF (T1.setTop (mkF m 14 #[oI p0, oI p1] [(.int ((own_f29 (p1.toInt64) (((p0 + (1 : Int32)).toInt64) * (1024 : Int64))).toInt32))]))
 refine own_ret X1 hx hlk Bd.returns rfl (Or.inl ⟨rfl, by simp, _, rfl⟩) (hb hby d28_14) (Nat.le_of_ble_eq_true rfl) (Nat.le_of_ble_eq_true rfl) ?_
 exact ⟨(own_lf_own_f28_1 (p0 := p0) (p1 := p1)), N1, e1⟩
theorem d22_0 : oQ oD3 0 (.iload_n 0) 1 := by decide +kernel
theorem d22_1 : oQ oD3 1 (.iconst (-1)) 1 := by decide +kernel
theorem d22_2 : oQ oD3 2 .ixor 1 := by decide +kernel
theorem d22_3 : oQ oD3 3 (.iload_n 0) 1 := by decide +kernel
theorem d22_4 : oQ oD3 4 (.iconst 1) 1 := by decide +kernel
theorem d22_5 : oQ oD3 5 .isub 1 := by decide +kernel
theorem d22_6 : oQ oD3 6 .iand 1 := by decide +kernel
theorem d22_7 : oQ oD3 7 (.istore_n 0) 1 := by decide +kernel
theorem d22_8 : oQ oD3 8 (.iload_n 0) 1 := by decide +kernel
theorem d22_9 : oQ oD3 9 (.ifCond .gt 8) 3 := by decide +kernel
theorem d22_12 : oQ oD3 12 (.iload_n 0) 1 := by decide +kernel
theorem d22_13 : oQ oD3 13 (.bipush 32) 2 := by decide +kernel
theorem d22_15 : oQ oD3 15 .iand 1 := by decide +kernel
theorem d22_16 : oQ oD3 16 .ireturn 1 := by decide +kernel
theorem d22_17 : oQ oD3 17 (.iconst 1) 1 := by decide +kernel
theorem d22_18 : oQ oD3 18 (.istore_n 1) 1 := by decide +kernel
theorem d22_19 : oQ oD3 19 (.iload_n 0) 1 := by decide +kernel
theorem d22_20 : oQ oD3 20 (.ldc_w 264) 3 := by decide +kernel
theorem d22_23 : oQ oD3 23 (.if_icmp .le 11) 3 := by decide +kernel
theorem d22_26 : oQ oD3 26 (.iinc 1 16) 3 := by decide +kernel
theorem d22_29 : oQ oD3 29 (.iload_n 0) 1 := by decide +kernel
theorem d22_30 : oQ oD3 30 (.bipush 16) 2 := by decide +kernel
theorem d22_32 : oQ oD3 32 .iushr 1 := by decide +kernel
theorem d22_33 : oQ oD3 33 (.istore_n 0) 1 := by decide +kernel
theorem d22_34 : oQ oD3 34 (.iload_n 0) 1 := by decide +kernel
theorem d22_35 : oQ oD3 35 (.sipush 256) 3 := by decide +kernel
theorem d22_38 : oQ oD3 38 (.if_icmp .le 11) 3 := by decide +kernel
theorem d22_41 : oQ oD3 41 (.iinc 1 8) 3 := by decide +kernel
theorem d22_44 : oQ oD3 44 (.iload_n 0) 1 := by decide +kernel
theorem d22_45 : oQ oD3 45 (.bipush 8) 2 := by decide +kernel
theorem d22_47 : oQ oD3 47 .iushr 1 := by decide +kernel
theorem d22_48 : oQ oD3 48 (.istore_n 0) 1 := by decide +kernel
theorem d22_49 : oQ oD3 49 (.iload_n 0) 1 := by decide +kernel
theorem d22_50 : oQ oD3 50 (.bipush 16) 2 := by decide +kernel
theorem d22_52 : oQ oD3 52 (.if_icmp .le 10) 3 := by decide +kernel
theorem d22_55 : oQ oD3 55 (.iinc 1 4) 3 := by decide +kernel
theorem d22_58 : oQ oD3 58 (.iload_n 0) 1 := by decide +kernel
theorem d22_59 : oQ oD3 59 (.iconst 4) 1 := by decide +kernel
theorem d22_60 : oQ oD3 60 .iushr 1 := by decide +kernel
theorem d22_61 : oQ oD3 61 (.istore_n 0) 1 := by decide +kernel
theorem d22_62 : oQ oD3 62 (.iload_n 0) 1 := by decide +kernel
theorem d22_63 : oQ oD3 63 (.iconst 4) 1 := by decide +kernel
theorem d22_64 : oQ oD3 64 (.if_icmp .le 10) 3 := by decide +kernel
theorem d22_67 : oQ oD3 67 (.iinc 1 2) 3 := by decide +kernel
theorem d22_70 : oQ oD3 70 (.iload_n 0) 1 := by decide +kernel
theorem d22_71 : oQ oD3 71 (.iconst 2) 1 := by decide +kernel
theorem d22_72 : oQ oD3 72 .iushr 1 := by decide +kernel
theorem d22_73 : oQ oD3 73 (.istore_n 0) 1 := by decide +kernel
theorem d22_74 : oQ oD3 74 (.iload_n 1) 1 := by decide +kernel
theorem d22_75 : oQ oD3 75 (.iload_n 0) 1 := by decide +kernel
theorem d22_76 : oQ oD3 76 (.iconst 1) 1 := by decide +kernel
theorem d22_77 : oQ oD3 77 .iushr 1 := by decide +kernel
theorem d22_78 : oQ oD3 78 .iadd 1 := by decide +kernel
theorem d22_79 : oQ oD3 79 .ireturn 1 := by decide +kernel
theorem pn_22 : plainName "java/lang/Integer" = true := by first | (simp [plainName, overriddenIn]; done) | decide +kernel
theorem ef_22 (m : MethodId) (p0 : Int32) : entryFrame m #[(.int p0)] 2 = mkF m 0 #[oI p0, oU] [] := by first | (simp [entryFrame, mkF, argsToLocals, Value.category]; done) | rfl
def own_rm22_room : Room := { frames := 0, cells := 0, slots := 0, locals := 0 }
def own_f22 (p0 : Int32) : Int32 := let z1 := ((p0 ^^^ (-1 : Int32)) &&& (p0 - (1 : Int32))); (if (0 : Int32) < z1 then (let z6 := (if (65536 : Int32) < z1 then (own_iushr z1 (16 : Int32)) else z1); let z7 := (if (65536 : Int32) < z1 then (17 : Int32) else (1 : Int32)); let z11 := (if (256 : Int32) < z6 then (own_iushr z6 (8 : Int32)) else z6); let z12 := (if (256 : Int32) < z6 then (z7 + (8 : Int32)) else z7); let z16 := (if (16 : Int32) < z11 then (own_iushr z11 (4 : Int32)) else z11); let z17 := (if (16 : Int32) < z11 then (z12 + (4 : Int32)) else z12); let z21 := (if (4 : Int32) < z16 then (own_iushr z16 (2 : Int32)) else z16); let z22 := (if (4 : Int32) < z16 then (z17 + (2 : Int32)) else z17); (z22 + (own_iushr z21 (1 : Int32)))) else ((z1 &&& (32 : Int32))))
theorem own_lf_own_f22_1 {p0 : Int32} {z1 : Int32} {z6 : Int32} {z7 : Int32} {z11 : Int32} {z12 : Int32} {z16 : Int32} {z17 : Int32} {z21 : Int32} {z22 : Int32} (hz1 : ((p0 ^^^ (-1 : Int32)) &&& (p0 - (1 : Int32))) = z1) (hz6 : (if (65536 : Int32) < z1 then (own_iushr z1 (16 : Int32)) else z1) = z6) (hz7 : (if (65536 : Int32) < z1 then (17 : Int32) else (1 : Int32)) = z7) (hz11 : (if (256 : Int32) < z6 then (own_iushr z6 (8 : Int32)) else z6) = z11) (hz12 : (if (256 : Int32) < z6 then (z7 + (8 : Int32)) else z7) = z12) (hz16 : (if (16 : Int32) < z11 then (own_iushr z11 (4 : Int32)) else z11) = z16) (hz17 : (if (16 : Int32) < z11 then (z12 + (4 : Int32)) else z12) = z17) (hz21 : (if (4 : Int32) < z16 then (own_iushr z16 (2 : Int32)) else z16) = z21) (hz22 : (if (4 : Int32) < z16 then (z17 + (2 : Int32)) else z17) = z22) (hc2 : (0 : Int32) < z1) : (some (.int (z22 + (own_iushr z21 (1 : Int32)))) : Option Value) = some (.int (own_f22 p0)) := by
  subst hz22
  subst hz21
  subst hz17
  subst hz16
  subst hz12
  subst hz11
  subst hz7
  subst hz6
  subst hz1
  first | (simp only [own_f22, if_pos hc2]; done) | (simp only [own_f22, if_pos hc2]; rfl) | rfl
theorem own_lf_own_f22_2 {p0 : Int32} {z1 : Int32} (hz1 : ((p0 ^^^ (-1 : Int32)) &&& (p0 - (1 : Int32))) = z1) (hc2 : ¬ ((0 : Int32) < z1)) : (some (.int (z1 &&& (32 : Int32))) : Option Value) = some (.int (own_f22 p0)) := by
  subst hz1
  first | (simp only [own_f22, if_neg hc2]; done) | (simp only [own_f22, if_neg hc2]; rfl) | rfl
set_option maxRecDepth 65536 in
set_option maxHeartbeats 40000000 in
theorem rm22 (l : Launch) (Z : State) (a0 : Array Value) (hw : oH Z a0) (ws : List Jvm.Cond) (p0 : Int32) (h0 : Heap) (n0 : Nat) (Z0 : n0 ≤ h0.size) :
    MetFree l oM3 (head1 (Jvm.Cond.code oM3 jdk_33_method_48_code 2 (some .int) :: ws) own_rm22_room) (fun a U => a = #[(.int p0)] ∧ Z.Warmed39 U.vm ∧ U.heap = h0) (fun _ _ _ _ _ => True) (fun _ U o U' => ∃ v L, o = .returned v ∧ own_QP (some (.int (own_f22 p0))) h0 n0 v U'.heap L ∧ FrameEnd U o U' L own_rm22_room.cells own_rm22_room.slots) := by
 refine MetFree.of_bodySF (plainFor_of_name pn_22) hisR ?_
 intro p e s m args below meth c s₁ Bd hml0 hP hK
 obtain ⟨rfl, hZ, hh⟩ := hP
 have hx := Bd.exec
 have hby := Bd.bytes
 have hml : c.maxLocals = 2 := hml0
 have hown : s.vm.findClass "java/lang/Integer" = some m.cls := findClass_of_methodNamed Bd.named
 have hnm := (name_of_methodNamed Bd.named Bd.method).1
 have hlk : meth.locks = false := BodyLoose.notSynchronized Bd
 have X0 : Stand p l e own_rm22_room s m #[(.int p0)] below meth c s₁ [] 0 0 := Stand.of_body Bd
 have e0 : s₁.heap = h0 := by rw [← hh, Bd.state]; rfl
 have N0 := Fr.nil n0
 show own_Fin p.tables e below s (own_QP (some (.int (own_f22 p0))) h0 n0) own_rm22_room.cells own_rm22_room.slots (s₁.setTop (entryFrame m #[(.int p0)] 2))
 rw [ef_22]
 show oF (s₁.setTop (mkF m 0 #[oI p0, oU] []))
 refine own_go (fun _ k => XS.iloadN X0.here hx rfl (hb hby d22_0) rfl (XS.iconst X0.here hx rfl (hb hby d22_1) (XS.ixor X0.here hx rfl (hb hby d22_2) rfl (XS.iloadN X0.here hx rfl (hb hby d22_3) rfl (XS.iconst X0.here hx rfl (hb hby d22_4) (XS.isub X0.here hx rfl (hb hby d22_5) rfl (XS.iand X0.here hx rfl (hb hby d22_6) rfl (XS.istoreN X0.here hx rfl (hb hby d22_7) rfl (l' := #[.val (.int ((p0 ^^^ (-1 : Int32)) &&& (p0 - (1 : Int32)))), oU]) rfl k)))))))) ?_
 show oF (s₁.setTop (mkF m 8 #[.val (.int ((p0 ^^^ (-1 : Int32)) &&& (p0 - (1 : Int32)))), oU] []))
 generalize hz1 : ((p0 ^^^ (-1 : Int32)) &&& (p0 - (1 : Int32))) = z1
 show oF (s₁.setTop (mkF m 8 #[oI z1, oU] []))
 refine own_go (fun _ k => XS.iloadN X0.here hx rfl (hb hby d22_8) rfl k) ?_
 by_cases hc2 : (0 : Int32) < z1
 · refine own_go (fun _ k => XS.ifYes X0.here hx rfl (pc0 := 9) (pc' := 17) rfl (hb hby d22_9) rfl ((if0 _ _).trans (tlt hc2).2.2.1) (by decide) (by decide) (XS.iconst X0.here hx rfl (hb hby d22_17) (XS.istoreN X0.here hx rfl (hb hby d22_18) rfl (l' := #[oI z1, oI 1]) rfl (XS.iloadN X0.here hx rfl (hb hby d22_19) rfl k)))) ?_
   refine own_go (fun _ k => X0.ldcwInt hx hown (mvT hZ (oW hw 209 rfl)) (g := (mkF m 20 #[oI z1, oI 1] [(.int z1)])) rfl (hb hby d22_20) _ k) ?_
   have hk4 : ∀ (T' : State) (L' : List Loc), Stand p l e own_rm22_room s m #[(.int p0)] below meth c T' L' 0 0 → Fr n0 L' → T'.heap = h0 → own_Fin p.tables e below s (own_QP (some (.int (own_f22 p0))) h0 n0) own_rm22_room.cells own_rm22_room.slots (T'.setTop (mkF m 34 #[.val (.int (if (65536 : Int32) < z1 then (own_iushr z1 (16 : Int32)) else z1)), .val (.int (if (65536 : Int32) < z1 then (17 : Int32) else (1 : Int32)))] [])) := by
    intro T5 L5 X5 N5 e5
    generalize hz6 : (if (65536 : Int32) < z1 then (own_iushr z1 (16 : Int32)) else z1) = z6
    generalize hz7 : (if (65536 : Int32) < z1 then (17 : Int32) else (1 : Int32)) = z7
    show oF (T5.setTop (mkF m 34 #[oI z6, oI z7] []))
    refine own_go (fun _ k => XS.iloadN X5.here hx rfl (hb hby d22_34) rfl (XS.sipush X5.here hx rfl (hb hby d22_35) k)) ?_
    have hk9 : ∀ (T' : State) (L' : List Loc), Stand p l e own_rm22_room s m #[(.int p0)] below meth c T' L' 0 0 → Fr n0 L' → T'.heap = h0 → own_Fin p.tables e below s (own_QP (some (.int (own_f22 p0))) h0 n0) own_rm22_room.cells own_rm22_room.slots (T'.setTop (mkF m 49 #[.val (.int (if (256 : Int32) < z6 then (own_iushr z6 (8 : Int32)) else z6)), .val (.int (if (256 : Int32) < z6 then (z7 + (8 : Int32)) else z7))] [])) := by
     intro T10 L10 X10 N10 e10
     generalize hz11 : (if (256 : Int32) < z6 then (own_iushr z6 (8 : Int32)) else z6) = z11
     generalize hz12 : (if (256 : Int32) < z6 then (z7 + (8 : Int32)) else z7) = z12
     show oF (T10.setTop (mkF m 49 #[oI z11, oI z12] []))
     refine own_go (fun _ k => XS.iloadN X10.here hx rfl (hb hby d22_49) rfl (XS.bipush X10.here hx rfl (hb hby d22_50) k)) ?_
     have hk14 : ∀ (T' : State) (L' : List Loc), Stand p l e own_rm22_room s m #[(.int p0)] below meth c T' L' 0 0 → Fr n0 L' → T'.heap = h0 → own_Fin p.tables e below s (own_QP (some (.int (own_f22 p0))) h0 n0) own_rm22_room.cells own_rm22_room.slots (T'.setTop (mkF m 62 #[.val (.int (if (16 : Int32) < z11 then (own_iushr z11 (4 : Int32)) else z11)), .val (.int (if (16 : Int32) < z11 then (z12 + (4 : Int32)) else z12))] [])) := by
      intro T15 L15 X15 N15 e15
      generalize hz16 : (if (16 : Int32) < z11 then (own_iushr z11 (4 : Int32)) else z11) = z16
      generalize hz17 : (if (16 : Int32) < z11 then (z12 + (4 : Int32)) else z12) = z17
      show oF (T15.setTop (mkF m 62 #[oI z16, oI z17] []))
      refine own_go (fun _ k => XS.iloadN X15.here hx rfl (hb hby d22_62) rfl (XS.iconst X15.here hx rfl (hb hby d22_63) k)) ?_
      have hk19 : ∀ (T' : State) (L' : List Loc), Stand p l e own_rm22_room s m #[(.int p0)] below meth c T' L' 0 0 → Fr n0 L' → T'.heap = h0 → own_Fin p.tables e below s (own_QP (some (.int (own_f22 p0))) h0 n0) own_rm22_room.cells own_rm22_room.slots (T'.setTop (mkF m 74 #[.val (.int (if (4 : Int32) < z16 then (own_iushr z16 (2 : Int32)) else z16)), .val (.int (if (4 : Int32) < z16 then (z17 + (2 : Int32)) else z17))] [])) := by
       intro T20 L20 X20 N20 e20
       generalize hz21 : (if (4 : Int32) < z16 then (own_iushr z16 (2 : Int32)) else z16) = z21
       generalize hz22 : (if (4 : Int32) < z16 then (z17 + (2 : Int32)) else z17) = z22
       show oF (T20.setTop (mkF m 74 #[oI z21, oI z22] []))
       refine own_go (fun _ k => XS.iloadN X20.here hx rfl (hb hby d22_74) rfl (XS.iloadN X20.here hx rfl (hb hby d22_75) rfl (XS.iconst X20.here hx rfl (hb hby d22_76) (XS.iushr X20.here hx rfl (hb hby d22_77) rfl k)))) ?_
       show oF (T20.setTop (mkF m 78 #[oI z21, oI z22] [(.int (own_iushr z21 (1 : Int32))), (.int z22)]))
       refine own_go (fun _ k => XS.iadd X20.here hx rfl (hb hby d22_78) rfl k) ?_
       refine own_ret X20 hx hlk Bd.returns rfl (Or.inl ⟨rfl, by simp, _, rfl⟩) (hb hby d22_79) (Nat.le_of_ble_eq_true rfl) (Nat.le_of_ble_eq_true rfl) ?_
       exact ⟨(own_lf_own_f22_1 (p0 := p0) hz1 hz6 hz7 hz11 hz12 hz16 hz17 hz21 hz22 hc2), N20, e20⟩
      by_cases hc18 : (4 : Int32) < z16
      · refine own_go (fun _ k => XS.icmpNo X15.here hx rfl (hb hby d22_64) rfl (tlt hc18).2.2.2 (XS.iinc X15.here hx rfl (hb hby d22_67) rfl (l' := #[oI z16, .val (.int (z17 + (2 : Int32)))]) rfl (XS.iloadN X15.here hx rfl (hb hby d22_70) rfl (XS.iconst X15.here hx rfl (hb hby d22_71) (XS.iushr X15.here hx rfl (hb hby d22_72) rfl k))))) ?_
        show oF (T15.setTop (mkF m 73 #[oI z16, .val (.int (z17 + (2 : Int32)))] [(.int (own_iushr z16 (2 : Int32)))]))
        refine own_go (fun _ k => XS.istoreN X15.here hx rfl (hb hby d22_73) rfl (l' := #[.val (.int (own_iushr z16 (2 : Int32))), .val (.int (z17 + (2 : Int32)))]) rfl k) ?_
        show oF (T15.setTop (mkF m 74 #[.val (.int (own_iushr z16 (2 : Int32))), .val (.int (z17 + (2 : Int32)))] []))
        have kj := hk19 T15 _ (own_mono X15 (by decide) (by decide)) N15 e15
        simpa only [if_pos hc18] using kj
      · refine own_go (fun _ k => XS.icmpYes X15.here hx rfl (pc0 := 64) (pc' := 74) rfl (hb hby d22_64) rfl (flt hc18).2.2.2 (by decide) (by decide) k) ?_
        show oF (T15.setTop (mkF m 74 #[oI z16, oI z17] []))
        have kj := hk19 T15 _ (own_mono X15 (by decide) (by decide)) N15 e15
        simpa only [if_neg hc18] using kj
     by_cases hc13 : (16 : Int32) < z11
     · refine own_go (fun _ k => XS.icmpNo X10.here hx rfl (hb hby d22_52) rfl (tlt hc13).2.2.2 (XS.iinc X10.here hx rfl (hb hby d22_55) rfl (l' := #[oI z11, .val (.int (z12 + (4 : Int32)))]) rfl (XS.iloadN X10.here hx rfl (hb hby d22_58) rfl (XS.iconst X10.here hx rfl (hb hby d22_59) (XS.iushr X10.here hx rfl (hb hby d22_60) rfl k))))) ?_
       show oF (T10.setTop (mkF m 61 #[oI z11, .val (.int (z12 + (4 : Int32)))] [(.int (own_iushr z11 (4 : Int32)))]))
       refine own_go (fun _ k => XS.istoreN X10.here hx rfl (hb hby d22_61) rfl (l' := #[.val (.int (own_iushr z11 (4 : Int32))), .val (.int (z12 + (4 : Int32)))]) rfl k) ?_
       show oF (T10.setTop (mkF m 62 #[.val (.int (own_iushr z11 (4 : Int32))), .val (.int (z12 + (4 : Int32)))] []))
       have kj := hk14 T10 _ (own_mono X10 (by decide) (by decide)) N10 e10
       simpa only [if_pos hc13] using kj
     · refine own_go (fun _ k => XS.icmpYes X10.here hx rfl (pc0 := 52) (pc' := 62) rfl (hb hby d22_52) rfl (flt hc13).2.2.2 (by decide) (by decide) k) ?_
       show oF (T10.setTop (mkF m 62 #[oI z11, oI z12] []))
       have kj := hk14 T10 _ (own_mono X10 (by decide) (by decide)) N10 e10
       simpa only [if_neg hc13] using kj
    by_cases hc8 : (256 : Int32) < z6
    · refine own_go (fun _ k => XS.icmpNo X5.here hx rfl (hb hby d22_38) rfl (tlt hc8).2.2.2 (XS.iinc X5.here hx rfl (hb hby d22_41) rfl (l' := #[oI z6, .val (.int (z7 + (8 : Int32)))]) rfl (XS.iloadN X5.here hx rfl (hb hby d22_44) rfl (XS.bipush X5.here hx rfl (hb hby d22_45) (XS.iushr X5.here hx rfl (hb hby d22_47) rfl k))))) ?_
      show oF (T5.setTop (mkF m 48 #[oI z6, .val (.int (z7 + (8 : Int32)))] [(.int (own_iushr z6 (8 : Int32)))]))
      refine own_go (fun _ k => XS.istoreN X5.here hx rfl (hb hby d22_48) rfl (l' := #[.val (.int (own_iushr z6 (8 : Int32))), .val (.int (z7 + (8 : Int32)))]) rfl k) ?_
      show oF (T5.setTop (mkF m 49 #[.val (.int (own_iushr z6 (8 : Int32))), .val (.int (z7 + (8 : Int32)))] []))
      have kj := hk9 T5 _ (own_mono X5 (by decide) (by decide)) N5 e5
      simpa only [if_pos hc8] using kj
    · refine own_go (fun _ k => XS.icmpYes X5.here hx rfl (pc0 := 38) (pc' := 49) rfl (hb hby d22_38) rfl (flt hc8).2.2.2 (by decide) (by decide) k) ?_
      show oF (T5.setTop (mkF m 49 #[oI z6, oI z7] []))
      have kj := hk9 T5 _ (own_mono X5 (by decide) (by decide)) N5 e5
      simpa only [if_neg hc8] using kj
   by_cases hc3 : (65536 : Int32) < z1
   · refine own_go (fun _ k => XS.icmpNo X0.here hx rfl (hb hby d22_23) rfl (tlt hc3).2.2.2 (XS.iinc X0.here hx rfl (hb hby d22_26) rfl (l' := #[oI z1, oI 17]) rfl k)) ?_
     show oF (s₁.setTop (mkF m 29 #[oI z1, oI 17] []))
     refine own_go (fun _ k => XS.iloadN X0.here hx rfl (hb hby d22_29) rfl (XS.bipush X0.here hx rfl (hb hby d22_30) (XS.iushr X0.here hx rfl (hb hby d22_32) rfl k))) ?_
     show oF (s₁.setTop (mkF m 33 #[oI z1, oI 17] [(.int (own_iushr z1 (16 : Int32)))]))
     refine own_go (fun _ k => XS.istoreN X0.here hx rfl (hb hby d22_33) rfl (l' := #[.val (.int (own_iushr z1 (16 : Int32))), oI 17]) rfl k) ?_
     show oF (s₁.setTop (mkF m 34 #[.val (.int (own_iushr z1 (16 : Int32))), oI 17] []))
     have kj := hk4 s₁ _ (own_mono X0 (by decide) (by decide)) N0 e0
     simpa only [if_pos hc3] using kj
   · refine own_go (fun _ k => XS.icmpYes X0.here hx rfl (pc0 := 23) (pc' := 34) rfl (hb hby d22_23) rfl (flt hc3).2.2.2 (by decide) (by decide) k) ?_
     show oF (s₁.setTop (mkF m 34 #[oI z1, oI 1] []))
     have kj := hk4 s₁ _ (own_mono X0 (by decide) (by decide)) N0 e0
     simpa only [if_neg hc3] using kj
 · refine own_go (fun _ k => XS.ifNo X0.here hx rfl (hb hby d22_9) rfl ((if0 _ _).trans (flt hc2).2.2.1) (XS.iloadN X0.here hx rfl (hb hby d22_12) rfl (XS.bipush X0.here hx rfl (hb hby d22_13) (XS.iand X0.here hx rfl (hb hby d22_15) rfl k)))) ?_
   refine own_ret X0 hx hlk Bd.returns rfl (Or.inl ⟨rfl, by simp, _, rfl⟩) (hb hby d22_16) (Nat.le_of_ble_eq_true rfl) (Nat.le_of_ble_eq_true rfl) ?_
   exact ⟨(own_lf_own_f22_2 (p0 := p0) hz1 hc2), N0, e0⟩
theorem own_pd90 : parseMethodDescriptor "(I)I" = some ⟨[.int], some .int⟩ := by decide +kernel
theorem d21_0 : oQ oD4 0 (.lload_n 0) 1 := by decide +kernel
theorem d21_1 : oQ oD4 1 .l2i 1 := by decide +kernel
theorem d21_2 : oQ oD4 2 (.istore_n 2) 1 := by decide +kernel
theorem d21_3 : oQ oD4 3 (.iload_n 2) 1 := by decide +kernel
theorem d21_4 : oQ oD4 4 (.ifCond .ne 17) 3 := by decide +kernel
theorem d21_7 : oQ oD4 7 (.bipush 32) 2 := by decide +kernel
theorem d21_9 : oQ oD4 9 (.lload_n 0) 1 := by decide +kernel
theorem d21_10 : oQ oD4 10 (.bipush 32) 2 := by decide +kernel
theorem d21_12 : oQ oD4 12 .lushr 1 := by decide +kernel
theorem d21_13 : oQ oD4 13 .l2i 1 := by decide +kernel
theorem d21_14 : oQ oD4 14 (.invokestatic 311) 3 := by decide +kernel
theorem d21_17 : oQ oD4 17 .iadd 1 := by decide +kernel
theorem d21_18 : oQ oD4 18 (.goto 7) 3 := by decide +kernel
theorem d21_21 : oQ oD4 21 (.iload_n 2) 1 := by decide +kernel
theorem d21_22 : oQ oD4 22 (.invokestatic 311) 3 := by decide +kernel
theorem d21_25 : oQ oD4 25 .ireturn 1 := by decide +kernel
theorem pn_21 : plainName "java/lang/Long" = true := by first | (simp [plainName, overriddenIn]; done) | decide +kernel
theorem ef_21 (m : MethodId) (q0 : Int64) : entryFrame m #[(.long q0)] 3 = mkF m 0 #[oJ q0, oS, oU] [] := by first | (simp [entryFrame, mkF, argsToLocals, Value.category]; done) | rfl
def own_rm21_room : Room := { frames := 1, cells := 0, slots := 0, locals := 14 }
def own_f21 (q0 : Int64) : Int32 := (if (q0.toInt32) = (0 : Int32) then (((32 : Int32) + (own_f22 ((own_lushr q0 (32 : Int32)).toInt32)))) else ((own_f22 (q0.toInt32))))
theorem own_lf_own_f21_1 {q0 : Int64} (hc1 : (q0.toInt32) = (0 : Int32)) : (some (.int ((32 : Int32) + (own_f22 ((own_lushr q0 (32 : Int32)).toInt32)))) : Option Value) = some (.int (own_f21 q0)) := by
  first | (simp only [own_f21, if_pos hc1]; done) | (simp only [own_f21, if_pos hc1]; rfl) | rfl
theorem own_lf_own_f21_2 {q0 : Int64} (hc1 : ¬ ((q0.toInt32) = (0 : Int32))) : (some (.int (own_f22 (q0.toInt32))) : Option Value) = some (.int (own_f21 q0)) := by
  first | (simp only [own_f21, if_neg hc1]; done) | (simp only [own_f21, if_neg hc1]; rfl) | rfl
set_option maxRecDepth 65536 in
set_option maxHeartbeats 40000000 in
theorem rm21 (l : Launch) (Z : State) (a0 : Array Value) (hw : oH Z a0) (ws : List Jvm.Cond) (q0 : Int64) (h0 : Heap) (n0 : Nat) (Z0 : n0 ≤ h0.size) :
    MetFree l oM4 (head1 (Jvm.Cond.code oM4 jdk_35_method_49_code 3 (some .int) :: ws) own_rm21_room) (fun a U => a = #[(.long q0)] ∧ Z.Warmed39 U.vm ∧ U.heap = h0) (fun _ _ _ _ _ => True) (fun _ U o U' => ∃ v L, o = .returned v ∧ own_QP (some (.int (own_f21 q0))) h0 n0 v U'.heap L ∧ FrameEnd U o U' L own_rm21_room.cells own_rm21_room.slots) := by
 refine MetFree.of_bodySF (plainFor_of_name pn_21) hisR ?_
 intro p e s m args below meth c s₁ Bd hml0 hP hK
 obtain ⟨rfl, hZ, hh⟩ := hP
 have hx := Bd.exec
 have hby := Bd.bytes
 have hml : c.maxLocals = 3 := hml0
 have hown : s.vm.findClass "java/lang/Long" = some m.cls := findClass_of_methodNamed Bd.named
 have hnm := (name_of_methodNamed Bd.named Bd.method).1
 have hlk : meth.locks = false := BodyLoose.notSynchronized Bd
 have X0 : Stand p l e own_rm21_room s m #[(.long q0)] below meth c s₁ [] 0 0 := Stand.of_body Bd
 have e0 : s₁.heap = h0 := by rw [← hh, Bd.state]; rfl
 have N0 := Fr.nil n0
 show own_Fin p.tables e below s (own_QP (some (.int (own_f21 q0))) h0 n0) own_rm21_room.cells own_rm21_room.slots (s₁.setTop (entryFrame m #[(.long q0)] 3))
 rw [ef_21]
 show oF (s₁.setTop (mkF m 0 #[oJ q0, oS, oU] []))
 refine own_go (fun _ k => XS.lloadN X0.here hx rfl (hb hby d21_0) rfl (XS.l2i X0.here hx rfl (hb hby d21_1) rfl k)) ?_
 show oF (s₁.setTop (mkF m 2 #[oJ q0, oS, oU] [(.int (q0.toInt32))]))
 refine own_go (fun _ k => XS.istoreN X0.here hx rfl (hb hby d21_2) rfl (l' := #[oJ q0, oS, .val (.int (q0.toInt32))]) rfl (XS.iloadN X0.here hx rfl (hb hby d21_3) rfl k)) ?_
 by_cases hc1 : (q0.toInt32) = (0 : Int32)
 · refine own_go (fun _ k => XS.ifNo X0.here hx rfl (hb hby d21_4) rfl ((if0 _ _).trans (teq hc1).2) (XS.bipush X0.here hx rfl (hb hby d21_7) (XS.lloadN X0.here hx rfl (hb hby d21_9) rfl (XS.bipush X0.here hx rfl (hb hby d21_10) (XS.lushr X0.here hx rfl (hb hby d21_12) rfl k))))) ?_
   show oF (s₁.setTop (mkF m 13 #[oJ q0, oS, .val (.int (q0.toInt32))] [(.long (own_lushr q0 (32 : Int32))), (.int 32)]))
   refine own_go (fun _ k => XS.l2i X0.here hx rfl (hb hby d21_13) rfl k) ?_
   show oF (s₁.setTop (mkF m 14 #[oJ q0, oS, .val (.int (q0.toInt32))] [(.int ((own_lushr q0 (32 : Int32)).toInt32)), (.int 32)]))
   obtain ⟨_, _, ⟨T2, L2, k2, n2⟩, -, X2, ⟨Lc2, hQ2, l2, y2, z2⟩, st2⟩ := Jvm.LawKit.callS X0 hx (y := oM3) hown (mvT hZ (oW hw 165 rfl)) (mvT hZ (oW hw 166 rfl)) (mvT hZ (oW hw 167 rfl)) (mvT hZ (oW hw 168 rfl)) (by decide) (backOf (W := 1) (rm22 l Z a0 hw [] ((own_lushr q0 (32 : Int32)).toInt32) h0 n0 Z0) hZ (oW hw 168 rfl) (oW hw 167 rfl) (by decide) (by decide)) (g := (mkF m 14 #[oJ q0, oS, .val (.int (q0.toInt32))] [(.int ((own_lushr q0 (32 : Int32)).toInt32)), (.int 32)])) rfl (by rw [hml]; rfl) (argsL := [(.int ((own_lushr q0 (32 : Int32)).toInt32))]) (rest := [(.int 32)]) (lenOf own_pd90 rfl) rfl (by show 2 * 0 + _ ≤ _; exact Nat.le_of_eq rfl) (hb hby d21_14) (fun _ _ => ⟨rfl, e0, (by decide : 0 + 0 ≤ _), (by decide : 0 + 0 ≤ _)⟩)
   dsimp only [Pt.U, Pt.locs, Pt.cells, Pt.slots] at X2 l2 y2 z2 st2 hQ2
   replace y2 : 0 = k2 := y2.symm
   replace z2 : 0 = n2 := z2.symm
   subst y2 z2
   obtain ⟨rfl, N2q, e2⟩ := hQ2
   have N2 : Fr n0 L2 := by rw [l2]; exact Fr.app N0 N2q
   refine own_go (fun tg k => st2 tg k) ?_
   show oF (T2.setTop (mkF m 17 #[oJ q0, oS, .val (.int (q0.toInt32))] [(.int (own_f22 ((own_lushr q0 (32 : Int32)).toInt32))), (.int 32)]))
   refine own_go (fun _ k => XS.iadd X2.here hx rfl (hb hby d21_17) rfl (XS.goto X2.here hx rfl (pc0 := 18) (pc' := 25) rfl (hb hby d21_18) (by decide) (by decide) k)) ?_
   refine own_ret X2 hx hlk Bd.returns rfl (Or.inl ⟨rfl, by simp, _, rfl⟩) (hb hby d21_25) (Nat.le_of_ble_eq_true rfl) (Nat.le_of_ble_eq_true rfl) ?_
   exact ⟨(own_lf_own_f21_1 (q0 := q0) hc1), N2, e2⟩
 · refine own_go (fun _ k => XS.ifYes X0.here hx rfl (pc0 := 4) (pc' := 21) rfl (hb hby d21_4) rfl ((if0 _ _).trans (feq hc1).2) (by decide) (by decide) (XS.iloadN X0.here hx rfl (hb hby d21_21) rfl k)) ?_
   obtain ⟨_, _, ⟨T3, L3, k3, n3⟩, -, X3, ⟨Lc3, hQ3, l3, y3, z3⟩, st3⟩ := Jvm.LawKit.callS X0 hx (y := oM3) hown (mvT hZ (oW hw 165 rfl)) (mvT hZ (oW hw 166 rfl)) (mvT hZ (oW hw 167 rfl)) (mvT hZ (oW hw 168 rfl)) (by decide) (backOf (W := 0) (rm22 l Z a0 hw [] (q0.toInt32) h0 n0 Z0) hZ (oW hw 168 rfl) (oW hw 167 rfl) (by decide) (by decide)) (g := (mkF m 22 #[oJ q0, oS, .val (.int (q0.toInt32))] [(.int (q0.toInt32))])) rfl (by rw [hml]; rfl) (argsL := [(.int (q0.toInt32))]) (rest := []) (lenOf own_pd90 rfl) rfl (by show 2 * 0 + _ ≤ _; exact Nat.le_of_eq rfl) (hb hby d21_22) (fun _ _ => ⟨rfl, e0, (by decide : 0 + 0 ≤ _), (by decide : 0 + 0 ≤ _)⟩)
   dsimp only [Pt.U, Pt.locs, Pt.cells, Pt.slots] at X3 l3 y3 z3 st3 hQ3
   replace y3 : 0 = k3 := y3.symm
   replace z3 : 0 = n3 := z3.symm
   subst y3 z3
   obtain ⟨rfl, N3q, e3⟩ := hQ3
   have N3 : Fr n0 L3 := by rw [l3]; exact Fr.app N0 N3q
   refine own_go (fun tg k => st3 tg k) ?_
   show oF (T3.setTop (mkF m 25 #[oJ q0, oS, .val (.int (q0.toInt32))] [(.int (own_f22 (q0.toInt32)))]))
   refine own_ret X3 hx hlk Bd.returns rfl (Or.inl ⟨rfl, by simp, _, rfl⟩) (hb hby d21_25) (Nat.le_of_ble_eq_true rfl) (Nat.le_of_ble_eq_true rfl) ?_
   exact ⟨(own_lf_own_f21_2 (q0 := q0) hc1), N3, e3⟩
theorem own_sn109 {Z : State} {a0 : Array Value} (hw : oH Z a0) : oO Z oC3 "size" "I" ≠ oO Z oC3 "indices" "[I" := slot_ne (Or.inl (oW hw 102 rfl)) (Or.inl (oW hw 46 rfl)) (by decide) (t := .int) (t' := (.array .int)) (by decide) (by decide)
theorem d5_0 : oQ oD5 0 (.aload_n 0) 1 := by decide +kernel
theorem d5_1 : oQ oD5 1 (.invokespecial 1) 3 := by decide +kernel
theorem d5_4 : oQ oD5 4 (.aload_n 0) 1 := by decide +kernel
theorem d5_5 : oQ oD5 5 (.bipush 16) 2 := by decide +kernel
theorem d5_7 : oQ oD5 7 (.newarray .int) 2 := by decide +kernel
theorem d5_9 : oQ oD5 9 (.putfield 7) 3 := by decide +kernel
theorem d5_12 : oQ oD5 12 .return_ 1 := by decide +kernel
theorem pn_5 : plainName oC3 = true := by first | (simp [plainName, overriddenIn]; done) | decide +kernel
theorem ef_5 (m : MethodId) (r0 : Addr) : entryFrame m #[(.ref r0)] 1 = mkF m 0 #[oR r0] [] := by first | (simp [entryFrame, mkF, argsToLocals, Value.category]; done) | rfl
def rm5_room : Room := { frames := 1, cells := 1, slots := 16, locals := 12 }
def Qrm5 (Z : State) (r0 : Addr) (h0 : Heap) (n0 : Nat) (v : Option Value) (h : Heap) (L : List Loc) : Prop := ∃ b : Addr, v = none ∧ Fr n0 L ∧ Keep h0 h [r0] ∧ h0.size ≤ b ∧ Exa Z h r0 oC3 ∧ Fld Z h r0 oC3 "indices" "[I" (.ref b) ∧ Fld Z h r0 oC3 "size" "I" (.int 0) ∧ own_Arf Z h b .int (16 : Int32) (fun i => .int ((fun _ => (0 : Int32)) i))
set_option maxRecDepth 65536 in
set_option maxHeartbeats 40000000 in
theorem rm5 (l : Launch) (Z : State) (a0 : Array Value) (hw : oH Z a0) (ws : List Jvm.Cond) (r0 : Addr) (h0 : Heap) (n0 : Nat) (Z0 : n0 ≤ h0.size) (E_r0_0 : Exa Z h0 r0 oC3) (F_indices_r0_0 : Fld Z h0 r0 oC3 "indices" "[I" .null) (F_size_r0_0 : Fld Z h0 r0 oC3 "size" "I" (.int 0)) (ge_r0 : n0 ≤ r0) :
    MetFree l oM5 (head1 (Jvm.Cond.code oM5 prog_26_method_1_code 1 none :: ws) rm5_room) (fun a U => a = #[(.ref r0)] ∧ Z.Warmed39 U.vm ∧ U.heap = h0) (fun _ _ _ _ _ => True) (fun _ U o U' => ∃ v L, o = .returned v ∧ Qrm5 Z r0 h0 n0 v U'.heap L ∧ FrameEnd U o U' L rm5_room.cells rm5_room.slots) := by
 refine MetFree.of_bodySF (plainFor_of_name pn_5) hisR ?_
 intro p e s m args below meth c s₁ Bd hml0 hP hK
 obtain ⟨rfl, hZ, hh⟩ := hP
 have hx := Bd.exec
 have hby := Bd.bytes
 have hml : c.maxLocals = 1 := hml0
 have hown : s.vm.findClass oC3 = some m.cls := findClass_of_methodNamed Bd.named
 have hnm := (name_of_methodNamed Bd.named Bd.method).1
 have hlk : meth.locks = false := BodyLoose.notSynchronized Bd
 have X0 : Stand p l e rm5_room s m #[(.ref r0)] below meth c s₁ [] 0 0 := Stand.of_body Bd
 have e0 : s₁.heap = h0 := by rw [← hh, Bd.state]; rfl
 have N0 := Fr.nil n0
 show own_Fin p.tables e below s (Qrm5 Z r0 h0 n0) rm5_room.cells rm5_room.slots (s₁.setTop (entryFrame m #[(.ref r0)] 1))
 rw [ef_5]
 show oF (s₁.setTop (mkF m 0 #[oR r0] []))
 have K0 := Keep.refl h0 [r0]
 refine own_go (fun _ k => XS.aloadN X0.here hx rfl (hb hby d5_0) rfl rfl k) ?_
 obtain ⟨T1, X1, e1, st1⟩ := initO X0 hx hZ hown (oW hw 43 rfl) (oW hw 16 rfl) (oW hw 17 rfl) e0 (g := (mkF m 1 #[oR r0] [(.ref r0)])) rfl (by rw [hml]; rfl) rfl (hb hby d5_1) (by decide) (W := 0) (by show 2 * 0 + _ ≤ _; exact Nat.le_of_eq rfl) (by decide)
 refine own_go (fun tg k => st1 tg k) ?_
 show oF (T1.setTop (mkF m 4 #[oR r0] []))
 refine own_go (fun _ k => XS.aloadN X1.here hx rfl (hb hby d5_4) rfl rfl (XS.bipush X1.here hx rfl (hb hby d5_5) k)) ?_
 obtain ⟨T2, h2, k2, X2, e2, E2, A2, st2⟩ := newP X1 hx hZ (oW hw 44 rfl) e1 (g := (mkF m 7 #[oR r0] [(.int 16), (.ref r0)])) rfl (hb hby d5_7) rfl (by decide) (cap := 16) (by decide) (by decide) (by decide) (by decide)
 obtain ⟨b2, g2⟩ : ∃ z, z = h0.size := ⟨_, rfl⟩
 rw [← g2] at A2 st2
 have ne_r0_b2 : r0 ≠ b2 := Nat.ne_of_lt (Nat.lt_of_lt_of_le E_r0_0.lt (Nat.le_of_eq g2.symm))
 have ge_b2 : n0 ≤ b2 := Nat.le_trans Z0 (Nat.le_of_eq g2.symm)
 have sz_b2 : h0.size ≤ b2 := Nat.le_trans K0.1 (Nat.le_of_eq g2.symm)
 have E_r0_2 := E_r0_0.ext E2
 have F_indices_r0_2 := F_indices_r0_0.ext E2
 have F_size_r0_2 := F_size_r0_0.ext E2
 have K2 := K0.ext E2
 have Z2 : n0 ≤ h2.size := Nat.le_trans Z0 E2.1
 have A_b2_2 : own_Arf Z h2 b2 .int (16 : Int32) (fun i => .int ((fun _ => (0 : Int32)) i)) := own_Arf.new A2 (by decide)
 refine own_go (fun tg k => st2 tg k) ?_
 obtain ⟨T3, h3, X3, e3, W3, st3⟩ := putF X2 hx hZ hown (host := "") (Or.inl (oW hw 45 rfl)) Via.refl e2 F_indices_r0_2 E_r0_2 (Or.inl (oW hw 46 rfl)) (oW hw 38 rfl) (ty := (.array .int)) (by decide) rfl rfl (g := (mkF m 9 #[oR r0] [(.ref b2), (.ref r0)])) rfl rfl (hb hby d5_9)
 have E_r0_3 := E_r0_2.wr W3
 have F_size_r0_3 := F_size_r0_2.other W3 (Or.inr (own_sn109 hw))
 have A_b2_3 := A_b2_2.other W3 (Ne.symm ne_r0_b2)
 have K3 := K2.wr W3 (Or.inl (List.mem_of_getElem? (i := 0) rfl))
 have N3 := Fr.snoc X3 N0 ge_r0
 have Z3 : n0 ≤ h3.size := Nat.le_trans Z2 (Keep.of_wr W3).1
 have F_indices_r0_3 := F_indices_r0_2.same W3
 refine own_go (fun tg k => st3 tg k) ?_
 refine own_retV X3 hx hlk Bd.returns (hb hby d5_12) (Nat.le_of_ble_eq_true rfl) (Nat.le_of_ble_eq_true rfl) ?_
 rw [e3]
 refine ⟨b2, rfl, N3, K3, sz_b2, E_r0_3, ?_, ?_, ?_⟩
 · (exact F_indices_r0_3)
 · (exact F_size_r0_3)
 · (exact A_b2_3)
theorem d11_0 : oQ oD6 0 (.aload_n 0) 1 := by decide +kernel
theorem d11_1 : oQ oD6 1 (.getfield 13) 3 := by decide +kernel
theorem d11_4 : oQ oD6 4 .ireturn 1 := by decide +kernel
theorem pn_11 : plainName oC3 = true := by first | (simp [plainName, overriddenIn]; done) | decide +kernel
theorem ef_11 (m : MethodId) (r0 : Addr) : entryFrame m #[(.ref r0)] 1 = mkF m 0 #[oR r0] [] := by first | (simp [entryFrame, mkF, argsToLocals, Value.category]; done) | rfl
def rm11_room : Room := { frames := 0, cells := 0, slots := 0, locals := 0 }
def Qrm11 (Z : State) (r0 : Addr) (x1 : Int32) (h0 : Heap) (n0 : Nat) (v : Option Value) (h : Heap) (L : List Loc) : Prop := v = some (.int x1) ∧ Fr n0 L ∧ h = h0
set_option maxRecDepth 65536 in
set_option maxHeartbeats 40000000 in
theorem rm11 (l : Launch) (Z : State) (a0 : Array Value) (hw : oH Z a0) (ws : List Jvm.Cond) (r0 : Addr) (x1 : Int32) (h0 : Heap) (n0 : Nat) (Z0 : n0 ≤ h0.size) (F_size_r0_0 : Fld Z h0 r0 oC3 "size" "I" (.int x1)) :
    MetFree l oM6 (head1 (Jvm.Cond.code oM6 prog_26_method_3_code 1 (some .int) :: ws) rm11_room) (fun a U => a = #[(.ref r0)] ∧ Z.Warmed39 U.vm ∧ U.heap = h0) (fun _ _ _ _ _ => True) (fun _ U o U' => ∃ v L, o = .returned v ∧ Qrm11 Z r0 x1 h0 n0 v U'.heap L ∧ FrameEnd U o U' L rm11_room.cells rm11_room.slots) := by
 refine MetFree.of_bodySF (plainFor_of_name pn_11) hisR ?_
 intro p e s m args below meth c s₁ Bd hml0 hP hK
 obtain ⟨rfl, hZ, hh⟩ := hP
 have hx := Bd.exec
 have hby := Bd.bytes
 have hml : c.maxLocals = 1 := hml0
 have hown : s.vm.findClass oC3 = some m.cls := findClass_of_methodNamed Bd.named
 have hnm := (name_of_methodNamed Bd.named Bd.method).1
 have hlk : meth.locks = false := BodyLoose.notSynchronized Bd
 have X0 : Stand p l e rm11_room s m #[(.ref r0)] below meth c s₁ [] 0 0 := Stand.of_body Bd
 have e0 : s₁.heap = h0 := by rw [← hh, Bd.state]; rfl
 have N0 := Fr.nil n0
 show own_Fin p.tables e below s (Qrm11 Z r0 x1 h0 n0) rm11_room.cells rm11_room.slots (s₁.setTop (entryFrame m #[(.ref r0)] 1))
 rw [ef_11]
 show oF (s₁.setTop (mkF m 0 #[oR r0] []))
 refine own_go (fun _ k => XS.aloadN X0.here hx rfl (hb hby d11_0) rfl rfl k) ?_
 obtain ⟨T1, X1, e1, st1⟩ := getF X0 hx hZ hown (host := "") (Or.inl (oW hw 101 rfl)) Via.refl e0 F_size_r0_0 (g := (mkF m 1 #[oR r0] [(.ref r0)])) rfl rfl (hb hby d11_1)
 refine own_go (fun tg k => st1 tg k) ?_
 refine own_ret X1 hx hlk Bd.returns rfl (Or.inl ⟨rfl, by simp, _, rfl⟩) (hb hby d11_4) (Nat.le_of_ble_eq_true rfl) (Nat.le_of_ble_eq_true rfl) ?_
 refine ⟨?_, N0, e1⟩
 · rfl
theorem d19_0 : oQ oD7 0 (.aload_n 0) 1 := by decide +kernel
theorem d19_1 : oQ oD7 1 (.getfield 7) 3 := by decide +kernel
theorem d19_4 : oQ oD7 4 (.iload_n 1) 1 := by decide +kernel
theorem d19_5 : oQ oD7 5 .iaload 1 := by decide +kernel
theorem d19_6 : oQ oD7 6 .ireturn 1 := by decide +kernel
theorem pn_19 : plainName oC3 = true := by first | (simp [plainName, overriddenIn]; done) | decide +kernel
theorem ef_19 (m : MethodId) (r0 : Addr) (p1 : Int32) : entryFrame m #[(.ref r0), (.int p1)] 2 = mkF m 0 #[oR r0, oI p1] [] := by first | (simp [entryFrame, mkF, argsToLocals, Value.category]; done) | rfl
def rm19_room : Room := { frames := 0, cells := 0, slots := 0, locals := 0 }
def Qrm19 (Z : State) (r0 : Addr) (p1 : Int32) (ix : Addr) (fi : Nat → Int32) (h0 : Heap) (n0 : Nat) (v : Option Value) (h : Heap) (L : List Loc) : Prop := v = some (.int (fi p1.toNatClampNeg)) ∧ Fr n0 L ∧ h = h0
set_option maxRecDepth 65536 in
set_option maxHeartbeats 40000000 in
theorem rm19 (l : Launch) (Z : State) (a0 : Array Value) (hw : oH Z a0) (ws : List Jvm.Cond) (r0 : Addr) (p1 : Int32) (ix : Addr) (fi : Nat → Int32) (h0 : Heap) (n0 : Nat) (Z0 : n0 ≤ h0.size) (F_indices_r0_0 : Fld Z h0 r0 oC3 "indices" "[I" (.ref ix)) (A_ix_0 : own_Arf Z h0 ix .int (16 : Int32) (fun i => .int (fi i))) (hp : ¬ p1 < 0 ∧ p1 < (16 : Int32)) :
    MetFree l oM7 (head1 (Jvm.Cond.code oM7 prog_26_method_4_code 2 (some .int) :: ws) rm19_room) (fun a U => a = #[(.ref r0), (.int p1)] ∧ Z.Warmed39 U.vm ∧ U.heap = h0) (fun _ _ _ _ _ => True) (fun _ U o U' => ∃ v L, o = .returned v ∧ Qrm19 Z r0 p1 ix fi h0 n0 v U'.heap L ∧ FrameEnd U o U' L rm19_room.cells rm19_room.slots) := by
 refine MetFree.of_bodySF (plainFor_of_name pn_19) hisR ?_
 intro p e s m args below meth c s₁ Bd hml0 hP hK
 obtain ⟨rfl, hZ, hh⟩ := hP
 have hx := Bd.exec
 have hby := Bd.bytes
 have hml : c.maxLocals = 2 := hml0
 have hown : s.vm.findClass oC3 = some m.cls := findClass_of_methodNamed Bd.named
 have hnm := (name_of_methodNamed Bd.named Bd.method).1
 have hlk : meth.locks = false := BodyLoose.notSynchronized Bd
 have X0 : Stand p l e rm19_room s m #[(.ref r0), (.int p1)] below meth c s₁ [] 0 0 := Stand.of_body Bd
 have e0 : s₁.heap = h0 := by rw [← hh, Bd.state]; rfl
 have N0 := Fr.nil n0
 show own_Fin p.tables e below s (Qrm19 Z r0 p1 ix fi h0 n0) rm19_room.cells rm19_room.slots (s₁.setTop (entryFrame m #[(.ref r0), (.int p1)] 2))
 rw [ef_19]
 show oF (s₁.setTop (mkF m 0 #[oR r0, oI p1] []))
 refine own_go (fun _ k => XS.aloadN X0.here hx rfl (hb hby d19_0) rfl rfl k) ?_
 obtain ⟨T1, X1, e1, st1⟩ := getF X0 hx hZ hown (host := "") (Or.inl (oW hw 45 rfl)) Via.refl e0 F_indices_r0_0 (g := (mkF m 1 #[oR r0, oI p1] [(.ref r0)])) rfl rfl (hb hby d19_1)
 refine own_go (fun tg k => st1 tg k) ?_
 refine own_go (fun _ k => XS.iloadN X1.here hx rfl (hb hby d19_4) rfl k) ?_
 refine own_go (fun tg k => own_iaload X1 hx hZ e1 A_ix_0 (j := p1) hp (x := (fi p1.toNatClampNeg)) rfl (g := (mkF m 5 #[oR r0, oI p1] [(.int p1), (.ref ix)])) rfl rfl (hb hby d19_5) tg k) ?_
 refine own_ret X1 hx hlk Bd.returns rfl (Or.inl ⟨rfl, by simp, _, rfl⟩) (hb hby d19_6) (Nat.le_of_ble_eq_true rfl) (Nat.le_of_ble_eq_true rfl) ?_
 refine ⟨?_, N0, e1⟩
 · rfl
theorem own_sn131 {Z : State} {a0 : Array Value} (hw : oH Z a0) : oO Z oC3 "indices" "[I" ≠ oO Z oC3 "size" "I" := slot_ne (Or.inl (oW hw 46 rfl)) (Or.inl (oW hw 102 rfl)) (by decide) (t := (.array .int)) (t' := .int) (by decide) (by decide)
theorem d13_0 : oQ oD8 0 (.aload_n 0) 1 := by decide +kernel
theorem d13_1 : oQ oD8 1 (.iconst 0) 1 := by decide +kernel
theorem d13_2 : oQ oD8 2 (.putfield 13) 3 := by decide +kernel
theorem d13_5 : oQ oD8 5 .return_ 1 := by decide +kernel
theorem pn_13 : plainName oC3 = true := by first | (simp [plainName, overriddenIn]; done) | decide +kernel
theorem ef_13 (m : MethodId) (r0 : Addr) : entryFrame m #[(.ref r0)] 1 = mkF m 0 #[oR r0] [] := by first | (simp [entryFrame, mkF, argsToLocals, Value.category]; done) | rfl
def rm13_room : Room := { frames := 0, cells := 0, slots := 0, locals := 0 }
def Qrm13 (Z : State) (r0 : Addr) (x1 : Int32) (ix : Addr) (h0 : Heap) (n0 : Nat) (v : Option Value) (h : Heap) (L : List Loc) : Prop := v = none ∧ Fr n0 L ∧ Keep h0 h [r0] ∧ Exa Z h r0 oC3 ∧ Fld Z h r0 oC3 "size" "I" (.int 0) ∧ Fld Z h r0 oC3 "indices" "[I" (.ref ix)
set_option maxRecDepth 65536 in
set_option maxHeartbeats 40000000 in
theorem rm13 (l : Launch) (Z : State) (a0 : Array Value) (hw : oH Z a0) (ws : List Jvm.Cond) (r0 : Addr) (x1 : Int32) (ix : Addr) (h0 : Heap) (n0 : Nat) (Z0 : n0 ≤ h0.size) (E_r0_0 : Exa Z h0 r0 oC3) (F_size_r0_0 : Fld Z h0 r0 oC3 "size" "I" (.int x1)) (F_indices_r0_0 : Fld Z h0 r0 oC3 "indices" "[I" (.ref ix)) (ge_r0 : n0 ≤ r0) :
    MetFree l oM8 (head1 (Jvm.Cond.code oM8 prog_26_method_7_code 1 none :: ws) rm13_room) (fun a U => a = #[(.ref r0)] ∧ Z.Warmed39 U.vm ∧ U.heap = h0) (fun _ _ _ _ _ => True) (fun _ U o U' => ∃ v L, o = .returned v ∧ Qrm13 Z r0 x1 ix h0 n0 v U'.heap L ∧ FrameEnd U o U' L rm13_room.cells rm13_room.slots) := by
 refine MetFree.of_bodySF (plainFor_of_name pn_13) hisR ?_
 intro p e s m args below meth c s₁ Bd hml0 hP hK
 obtain ⟨rfl, hZ, hh⟩ := hP
 have hx := Bd.exec
 have hby := Bd.bytes
 have hml : c.maxLocals = 1 := hml0
 have hown : s.vm.findClass oC3 = some m.cls := findClass_of_methodNamed Bd.named
 have hnm := (name_of_methodNamed Bd.named Bd.method).1
 have hlk : meth.locks = false := BodyLoose.notSynchronized Bd
 have X0 : Stand p l e rm13_room s m #[(.ref r0)] below meth c s₁ [] 0 0 := Stand.of_body Bd
 have e0 : s₁.heap = h0 := by rw [← hh, Bd.state]; rfl
 have N0 := Fr.nil n0
 show own_Fin p.tables e below s (Qrm13 Z r0 x1 ix h0 n0) rm13_room.cells rm13_room.slots (s₁.setTop (entryFrame m #[(.ref r0)] 1))
 rw [ef_13]
 show oF (s₁.setTop (mkF m 0 #[oR r0] []))
 have K0 := Keep.refl h0 [r0]
 refine own_go (fun _ k => XS.aloadN X0.here hx rfl (hb hby d13_0) rfl rfl (XS.iconst X0.here hx rfl (hb hby d13_1) k)) ?_
 obtain ⟨T1, h1, X1, e1, W1, st1⟩ := putF X0 hx hZ hown (host := "") (Or.inl (oW hw 101 rfl)) Via.refl e0 F_size_r0_0 E_r0_0 (Or.inl (oW hw 102 rfl)) (oW hw 38 rfl) (ty := .int) (by decide) rfl rfl (g := (mkF m 2 #[oR r0] [(.int 0), (.ref r0)])) rfl rfl (hb hby d13_2)
 have E_r0_1 := E_r0_0.wr W1
 have F_indices_r0_1 := F_indices_r0_0.other W1 (Or.inr (own_sn131 hw))
 have K1 := K0.wr W1 (Or.inl (List.mem_of_getElem? (i := 0) rfl))
 have N1 := Fr.snoc X1 N0 ge_r0
 have Z1 : n0 ≤ h1.size := Nat.le_trans Z0 (Keep.of_wr W1).1
 have F_size_r0_1 := F_size_r0_0.same W1
 refine own_go (fun tg k => st1 tg k) ?_
 refine own_retV X1 hx hlk Bd.returns (hb hby d13_5) (Nat.le_of_ble_eq_true rfl) (Nat.le_of_ble_eq_true rfl) ?_
 rw [e1]
 refine ⟨rfl, N1, K1, E_r0_1, ?_, ?_⟩
 · (exact F_size_r0_1)
 · (exact F_indices_r0_1)
theorem d16_0 : oQ oD9 0 (.aload_n 0) 1 := by decide +kernel
theorem d16_1 : oQ oD9 1 (.getfield 13) 3 := by decide +kernel
theorem d16_4 : oQ oD9 4 (.aload_n 0) 1 := by decide +kernel
theorem d16_5 : oQ oD9 5 (.getfield 7) 3 := by decide +kernel
theorem d16_8 : oQ oD9 8 .arraylength 1 := by decide +kernel
theorem d16_9 : oQ oD9 9 (.if_icmp .ne 30) 3 := by decide +kernel
theorem d16_39 : oQ oD9 39 (.aload_n 0) 1 := by decide +kernel
theorem d16_40 : oQ oD9 40 (.getfield 7) 3 := by decide +kernel
theorem d16_43 : oQ oD9 43 (.aload_n 0) 1 := by decide +kernel
theorem d16_44 : oQ oD9 44 .dup 1 := by decide +kernel
theorem d16_45 : oQ oD9 45 (.getfield 13) 3 := by decide +kernel
theorem d16_48 : oQ oD9 48 .dup_x1 1 := by decide +kernel
theorem d16_49 : oQ oD9 49 (.iconst 1) 1 := by decide +kernel
theorem d16_50 : oQ oD9 50 .iadd 1 := by decide +kernel
theorem d16_51 : oQ oD9 51 (.putfield 13) 3 := by decide +kernel
theorem d16_54 : oQ oD9 54 (.iload_n 1) 1 := by decide +kernel
theorem d16_55 : oQ oD9 55 .iastore 1 := by decide +kernel
theorem d16_56 : oQ oD9 56 .return_ 1 := by decide +kernel
theorem pn_16 : plainName oC3 = true := by first | (simp [plainName, overriddenIn]; done) | decide +kernel
theorem ef_16 (m : MethodId) (r0 : Addr) (p1 : Int32) : entryFrame m #[(.ref r0), (.int p1)] 2 = mkF m 0 #[oR r0, oI p1] [] := by first | (simp [entryFrame, mkF, argsToLocals, Value.category]; done) | rfl
def rm16_room : Room := { frames := 0, cells := 0, slots := 0, locals := 0 }
def Qrm16 (Z : State) (r0 : Addr) (p1 : Int32) (x1 : Int32) (ix : Addr) (fi : Nat → Int32) (h0 : Heap) (n0 : Nat) (v : Option Value) (h : Heap) (L : List Loc) : Prop := v = none ∧ Fr n0 L ∧ Keep h0 h [r0, ix] ∧ Exa Z h r0 oC3 ∧ Fld Z h r0 oC3 "size" "I" (.int (x1 + (1 : Int32))) ∧ Fld Z h r0 oC3 "indices" "[I" (.ref ix) ∧ own_Arf Z h ix .int (16 : Int32) (fun i => .int ((own_set fi x1 p1) i))
set_option maxRecDepth 65536 in
set_option maxHeartbeats 40000000 in
theorem rm16 (l : Launch) (Z : State) (a0 : Array Value) (hw : oH Z a0) (ws : List Jvm.Cond) (r0 : Addr) (p1 : Int32) (x1 : Int32) (ix : Addr) (fi : Nat → Int32) (h0 : Heap) (n0 : Nat) (Z0 : n0 ≤ h0.size) (E_r0_0 : Exa Z h0 r0 oC3) (F_size_r0_0 : Fld Z h0 r0 oC3 "size" "I" (.int x1)) (F_indices_r0_0 : Fld Z h0 r0 oC3 "indices" "[I" (.ref ix)) (A_ix_0 : own_Arf Z h0 ix .int (16 : Int32) (fun i => .int (fi i))) (ge_r0 : n0 ≤ r0) (ge_ix : n0 ≤ ix) (hp : ¬ x1 < 0 ∧ x1 < (16 : Int32)) :
    MetFree l oM9 (head1 (Jvm.Cond.code oM9 prog_26_method_2_code 2 none :: ws) rm16_room) (fun a U => a = #[(.ref r0), (.int p1)] ∧ Z.Warmed39 U.vm ∧ U.heap = h0) (fun _ _ _ _ _ => True) (fun _ U o U' => ∃ v L, o = .returned v ∧ Qrm16 Z r0 p1 x1 ix fi h0 n0 v U'.heap L ∧ FrameEnd U o U' L rm16_room.cells rm16_room.slots) := by
 refine MetFree.of_bodySF (plainFor_of_name pn_16) hisR ?_
 intro p e s m args below meth c s₁ Bd hml0 hP hK
 obtain ⟨rfl, hZ, hh⟩ := hP
 have hx := Bd.exec
 have hby := Bd.bytes
 have hml : c.maxLocals = 2 := hml0
 have hown : s.vm.findClass oC3 = some m.cls := findClass_of_methodNamed Bd.named
 have hnm := (name_of_methodNamed Bd.named Bd.method).1
 have hlk : meth.locks = false := BodyLoose.notSynchronized Bd
 have X0 : Stand p l e rm16_room s m #[(.ref r0), (.int p1)] below meth c s₁ [] 0 0 := Stand.of_body Bd
 have e0 : s₁.heap = h0 := by rw [← hh, Bd.state]; rfl
 have N0 := Fr.nil n0
 show own_Fin p.tables e below s (Qrm16 Z r0 p1 x1 ix fi h0 n0) rm16_room.cells rm16_room.slots (s₁.setTop (entryFrame m #[(.ref r0), (.int p1)] 2))
 rw [ef_16]
 show oF (s₁.setTop (mkF m 0 #[oR r0, oI p1] []))
 have K0 := Keep.refl h0 [r0, ix]
 refine own_go (fun _ k => XS.aloadN X0.here hx rfl (hb hby d16_0) rfl rfl k) ?_
 obtain ⟨T1, X1, e1, st1⟩ := getF X0 hx hZ hown (host := "") (Or.inl (oW hw 101 rfl)) Via.refl e0 F_size_r0_0 (g := (mkF m 1 #[oR r0, oI p1] [(.ref r0)])) rfl rfl (hb hby d16_1)
 refine own_go (fun tg k => st1 tg k) ?_
 refine own_go (fun _ k => XS.aloadN X1.here hx rfl (hb hby d16_4) rfl rfl k) ?_
 obtain ⟨T2, X2, e2, st2⟩ := getF X1 hx hZ hown (host := "") (Or.inl (oW hw 45 rfl)) Via.refl e1 F_indices_r0_0 (g := (mkF m 5 #[oR r0, oI p1] [(.ref r0), (.int x1)])) rfl rfl (hb hby d16_5)
 refine own_go (fun tg k => st2 tg k) ?_
 refine own_go (fun tg k => own_alen X2 hx hZ e2 A_ix_0 (g := (mkF m 8 #[oR r0, oI p1] [(.ref ix), (.int x1)])) rfl rfl (hb hby d16_8) tg k) ?_
 have hc9 : ¬ (x1 = (16 : Int32)) := (own_ne16 hp.2)
 refine own_go (fun _ k => XS.icmpYes X2.here hx rfl (pc0 := 9) (pc' := 39) rfl (hb hby d16_9) rfl (feq hc9).2 (by decide) (by decide) k) ?_
 show oF (T2.setTop (mkF m 39 #[oR r0, oI p1] []))
 refine own_go (fun _ k => XS.aloadN X2.here hx rfl (hb hby d16_39) rfl rfl k) ?_
 obtain ⟨T3, X3, e3, st3⟩ := getF X2 hx hZ hown (host := "") (Or.inl (oW hw 45 rfl)) Via.refl e2 F_indices_r0_0 (g := (mkF m 40 #[oR r0, oI p1] [(.ref r0)])) rfl rfl (hb hby d16_40)
 refine own_go (fun tg k => st3 tg k) ?_
 refine own_go (fun _ k => XS.aloadN X3.here hx rfl (hb hby d16_43) rfl rfl (XS.dup X3.here hx rfl (hb hby d16_44) rfl rfl k)) ?_
 obtain ⟨T4, X4, e4, st4⟩ := getF X3 hx hZ hown (host := "") (Or.inl (oW hw 101 rfl)) Via.refl e3 F_size_r0_0 (g := (mkF m 45 #[oR r0, oI p1] [(.ref r0), (.ref r0), (.ref ix)])) rfl rfl (hb hby d16_45)
 refine own_go (fun tg k => st4 tg k) ?_
 refine own_go (fun _ k => XS.dupX1 X4.here hx rfl (hb hby d16_48) rfl rfl rfl (XS.iconst X4.here hx rfl (hb hby d16_49) (XS.iadd X4.here hx rfl (hb hby d16_50) rfl k))) ?_
 obtain ⟨T5, h5, X5, e5, W5, st5⟩ := putF X4 hx hZ hown (host := "") (Or.inl (oW hw 101 rfl)) Via.refl e4 F_size_r0_0 E_r0_0 (Or.inl (oW hw 102 rfl)) (oW hw 38 rfl) (ty := .int) (by decide) rfl rfl (g := (mkF m 51 #[oR r0, oI p1] [(.int (x1 + (1 : Int32))), (.ref r0), (.int x1), (.ref ix)])) rfl rfl (hb hby d16_51)
 have E_r0_5 := E_r0_0.wr W5
 have F_indices_r0_5 := F_indices_r0_0.other W5 (Or.inr (own_sn131 hw))
 have A_ix_5 := A_ix_0.other W5 (Ne.symm (own_ne_arf E_r0_0 (oW hw 38 rfl) A_ix_0))
 have K5 := K0.wr W5 (Or.inl (List.mem_of_getElem? (i := 0) rfl))
 have N5 := Fr.snoc X5 N0 ge_r0
 have Z5 : n0 ≤ h5.size := Nat.le_trans Z0 (Keep.of_wr W5).1
 have F_size_r0_5 := F_size_r0_0.same W5
 refine own_go (fun tg k => st5 tg k) ?_
 refine own_go (fun _ k => XS.iloadN X5.here hx rfl (hb hby d16_54) rfl k) ?_
 obtain ⟨T6, h6, X6, e6, W6, A_ix_6, st6⟩ := own_stI X5 hx hZ e5 A_ix_5 (j := x1) hp (g := (mkF m 55 #[oR r0, oI p1] [(.int p1), (.int x1), (.ref ix)])) rfl rfl (hb hby d16_55)
 have E_r0_6 := E_r0_5.wr W6
 have u6_r0 := (own_ne_arf E_r0_5 (oW hw 38 rfl) A_ix_5)
 have F_size_r0_6 := F_size_r0_5.other W6 (Or.inl u6_r0)
 have F_indices_r0_6 := F_indices_r0_5.other W6 (Or.inl u6_r0)
 have K6 := K5.wr W6 (Or.inl (List.mem_of_getElem? (i := 1) rfl))
 have N6 := Fr.snoc X6 N5 ge_ix
 have Z6 : n0 ≤ h6.size := Nat.le_trans Z5 (Keep.of_wr W6).1
 refine own_go (fun tg k => st6 tg k) ?_
 refine own_retV X6 hx hlk Bd.returns (hb hby d16_56) (Nat.le_of_ble_eq_true rfl) (Nat.le_of_ble_eq_true rfl) ?_
 rw [e6]
 refine ⟨rfl, N6, K6, E_r0_6, ?_, ?_, ?_⟩
 · (exact F_size_r0_6)
 · (exact F_indices_r0_6)
 · (exact A_ix_6)
theorem own_pd158 : parseMethodDescriptor "()V" = some ⟨[], none⟩ := by decide +kernel
theorem own_sn159 {Z : State} {a0 : Array Value} (hw : oH Z a0) : oO Z oC1 "words" "[J" ≠ oO Z oC1 "blocks" oC5 := slot_ne (Or.inr (oW hw 53 rfl)) (Or.inr (oW hw 48 rfl)) (by decide) (t := (.array .long)) (t' := (.object oC3)) (by decide) (by decide)
theorem own_sn160 {Z : State} {a0 : Array Value} (hw : oH Z a0) : oO Z oC1 "held" "[Z" ≠ oO Z oC1 "blocks" oC5 := slot_ne (Or.inr (oW hw 56 rfl)) (Or.inr (oW hw 48 rfl)) (by decide) (t := (.array .boolean)) (t' := (.object oC3)) (by decide) (by decide)
theorem own_sn161 {Z : State} {a0 : Array Value} (hw : oH Z a0) : oO Z oC1 "sorted" "Z" ≠ oO Z oC1 "blocks" oC5 := slot_ne (Or.inl (oW hw 50 rfl)) (Or.inr (oW hw 48 rfl)) (by decide) (t := .boolean) (t' := (.object oC3)) (by decide) (by decide)
theorem own_sn162 {Z : State} {a0 : Array Value} (hw : oH Z a0) : oO Z oC1 "words" "[J" ≠ oO Z oC1 "sorted" "Z" := slot_ne (Or.inr (oW hw 53 rfl)) (Or.inl (oW hw 50 rfl)) (by decide) (t := (.array .long)) (t' := .boolean) (by decide) (by decide)
theorem own_sn163 {Z : State} {a0 : Array Value} (hw : oH Z a0) : oO Z oC1 "held" "[Z" ≠ oO Z oC1 "sorted" "Z" := slot_ne (Or.inr (oW hw 56 rfl)) (Or.inl (oW hw 50 rfl)) (by decide) (t := (.array .boolean)) (t' := .boolean) (by decide) (by decide)
theorem own_sn164 {Z : State} {a0 : Array Value} (hw : oH Z a0) : oO Z oC1 "blocks" oC5 ≠ oO Z oC1 "sorted" "Z" := slot_ne (Or.inr (oW hw 48 rfl)) (Or.inl (oW hw 50 rfl)) (by decide) (t := (.object oC3)) (t' := .boolean) (by decide) (by decide)
theorem own_sn165 {Z : State} {a0 : Array Value} (hw : oH Z a0) : oO Z oC1 "held" "[Z" ≠ oO Z oC1 "words" "[J" := slot_ne (Or.inr (oW hw 56 rfl)) (Or.inr (oW hw 53 rfl)) (by decide) (t := (.array .boolean)) (t' := (.array .long)) (by decide) (by decide)
theorem own_sn166 {Z : State} {a0 : Array Value} (hw : oH Z a0) : oO Z oC1 "blocks" oC5 ≠ oO Z oC1 "words" "[J" := slot_ne (Or.inr (oW hw 48 rfl)) (Or.inr (oW hw 53 rfl)) (by decide) (t := (.object oC3)) (t' := (.array .long)) (by decide) (by decide)
theorem own_sn167 {Z : State} {a0 : Array Value} (hw : oH Z a0) : oO Z oC1 "sorted" "Z" ≠ oO Z oC1 "words" "[J" := slot_ne (Or.inl (oW hw 50 rfl)) (Or.inr (oW hw 53 rfl)) (by decide) (t := .boolean) (t' := (.array .long)) (by decide) (by decide)
theorem own_sn168 {Z : State} {a0 : Array Value} (hw : oH Z a0) : oO Z oC1 "words" "[J" ≠ oO Z oC1 "held" "[Z" := slot_ne (Or.inr (oW hw 53 rfl)) (Or.inr (oW hw 56 rfl)) (by decide) (t := (.array .long)) (t' := (.array .boolean)) (by decide) (by decide)
theorem own_sn169 {Z : State} {a0 : Array Value} (hw : oH Z a0) : oO Z oC1 "blocks" oC5 ≠ oO Z oC1 "held" "[Z" := slot_ne (Or.inr (oW hw 48 rfl)) (Or.inr (oW hw 56 rfl)) (by decide) (t := (.object oC3)) (t' := (.array .boolean)) (by decide) (by decide)
theorem own_sn170 {Z : State} {a0 : Array Value} (hw : oH Z a0) : oO Z oC1 "sorted" "Z" ≠ oO Z oC1 "held" "[Z" := slot_ne (Or.inl (oW hw 50 rfl)) (Or.inr (oW hw 56 rfl)) (by decide) (t := .boolean) (t' := (.array .boolean)) (by decide) (by decide)
theorem d4_0 : oQ oD10 0 (.aload_n 0) 1 := by decide +kernel
theorem d4_1 : oQ oD10 1 (.invokespecial 5) 3 := by decide +kernel
theorem d4_4 : oQ oD10 4 (.aload_n 0) 1 := by decide +kernel
theorem d4_5 : oQ oD10 5 (.new 11) 3 := by decide +kernel
theorem d4_8 : oQ oD10 8 .dup 1 := by decide +kernel
theorem d4_9 : oQ oD10 9 (.invokespecial 13) 3 := by decide +kernel
theorem d4_12 : oQ oD10 12 (.putfield 14) 3 := by decide +kernel
theorem d4_15 : oQ oD10 15 (.aload_n 0) 1 := by decide +kernel
theorem d4_16 : oQ oD10 16 (.iconst 1) 1 := by decide +kernel
theorem d4_17 : oQ oD10 17 (.putfield 20) 3 := by decide +kernel
theorem d4_20 : oQ oD10 20 (.aload_n 0) 1 := by decide +kernel
theorem d4_21 : oQ oD10 21 (.iload_n 1) 1 := by decide +kernel
theorem d4_22 : oQ oD10 22 (.bipush 16) 2 := by decide +kernel
theorem d4_24 : oQ oD10 24 .imul 1 := by decide +kernel
theorem d4_25 : oQ oD10 25 (.newarray .long) 2 := by decide +kernel
theorem d4_27 : oQ oD10 27 (.putfield 24) 3 := by decide +kernel
theorem d4_30 : oQ oD10 30 (.aload_n 0) 1 := by decide +kernel
theorem d4_31 : oQ oD10 31 (.iload_n 1) 1 := by decide +kernel
theorem d4_32 : oQ oD10 32 (.newarray .boolean) 2 := by decide +kernel
theorem d4_34 : oQ oD10 34 (.putfield 28) 3 := by decide +kernel
theorem d4_37 : oQ oD10 37 .return_ 1 := by decide +kernel
theorem pn_4 : plainName oC1 = true := by first | (simp [plainName, overriddenIn]; done) | decide +kernel
theorem ef_4_1Int32 (m : MethodId) (r0 : Addr) : entryFrame m #[(.ref r0), (.int 1)] 2 = mkF m 0 #[oR r0, oI 1] [] := by first | (simp [entryFrame, mkF, argsToLocals, Value.category]; done) | rfl
def rm4_room : Room := { frames := 2, cells := 4, slots := 35, locals := 26 }
def Qrm4 (Z : State) (r0 : Addr) (h0 : Heap) (n0 : Nat) (v : Option Value) (h : Heap) (L : List Loc) : Prop := ∃ bl : Addr, ∃ bi : Addr, ∃ bw : Addr, ∃ bh : Addr, v = none ∧ Fr n0 L ∧ Keep h0 h [r0] ∧ h0.size ≤ bl ∧ h0.size ≤ bi ∧ h0.size ≤ bw ∧ h0.size ≤ bh ∧ Exa Z h r0 oC1 ∧ Fld Z h r0 oC1 "words" "[J" (.ref bw) ∧ Fld Z h r0 oC1 "held" "[Z" (.ref bh) ∧ Fld Z h r0 oC1 "blocks" oC5 (.ref bl) ∧ Fld Z h r0 oC1 "sorted" "Z" (.int 1) ∧ Exa Z h bl oC3 ∧ Fld Z h bl oC3 "indices" "[I" (.ref bi) ∧ Fld Z h bl oC3 "size" "I" (.int 0) ∧ own_Arf Z h bi .int (16 : Int32) (fun i => .int ((fun _ => (0 : Int32)) i)) ∧ own_Arf Z h bw .long (16 : Int32) (fun i => .long ((own_w0 (0 : Int64)) i)) ∧ own_Arf Z h bh .boolean (1 : Int32) (fun i => .int ((fun _ => (0 : Int32)) i))
set_option maxRecDepth 65536 in
set_option maxHeartbeats 40000000 in
theorem rm4 (l : Launch) (Z : State) (a0 : Array Value) (hw : oH Z a0) (ws : List Jvm.Cond) (r0 : Addr) (h0 : Heap) (n0 : Nat) (Z0 : n0 ≤ h0.size) (E_r0_0 : Exa Z h0 r0 oC1) (F_words_r0_0 : Fld Z h0 r0 oC1 "words" "[J" .null) (F_held_r0_0 : Fld Z h0 r0 oC1 "held" "[Z" .null) (F_blocks_r0_0 : Fld Z h0 r0 oC1 "blocks" oC5 .null) (F_sorted_r0_0 : Fld Z h0 r0 oC1 "sorted" "Z" (.int 0)) (ge_r0 : n0 ≤ r0) :
    MetFree l oM10 (head1 (Jvm.Cond.code oM10 prog_49_method_1_code 2 none :: ws) rm4_room) (fun a U => a = #[(.ref r0), (.int 1)] ∧ Z.Warmed39 U.vm ∧ U.heap = h0) (fun _ _ _ _ _ => True) (fun _ U o U' => ∃ v L, o = .returned v ∧ Qrm4 Z r0 h0 n0 v U'.heap L ∧ FrameEnd U o U' L rm4_room.cells rm4_room.slots) := by
 refine MetFree.of_bodySF (plainFor_of_name pn_4) hisR ?_
 intro p e s m args below meth c s₁ Bd hml0 hP hK
 obtain ⟨rfl, hZ, hh⟩ := hP
 have hx := Bd.exec
 have hby := Bd.bytes
 have hml : c.maxLocals = 2 := hml0
 have hown : s.vm.findClass oC1 = some m.cls := findClass_of_methodNamed Bd.named
 have hnm := (name_of_methodNamed Bd.named Bd.method).1
 have hlk : meth.locks = false := BodyLoose.notSynchronized Bd
 have X0 : Stand p l e rm4_room s m #[(.ref r0), (.int 1)] below meth c s₁ [] 0 0 := Stand.of_body Bd
 have e0 : s₁.heap = h0 := by rw [← hh, Bd.state]; rfl
 have N0 := Fr.nil n0
 show own_Fin p.tables e below s (Qrm4 Z r0 h0 n0) rm4_room.cells rm4_room.slots (s₁.setTop (entryFrame m #[(.ref r0), (.int 1)] 2))
 rw [ef_4_1Int32]
 show oF (s₁.setTop (mkF m 0 #[oR r0, oI 1] []))
 have K0 := Keep.refl h0 [r0]
 refine own_go (fun _ k => XS.aloadN X0.here hx rfl (hb hby d4_0) rfl rfl k) ?_
 obtain ⟨T1, X1, e1, st1⟩ := initO X0 hx hZ hown (oW hw 36 rfl) (oW hw 16 rfl) (oW hw 17 rfl) e0 (g := (mkF m 1 #[oR r0, oI 1] [(.ref r0)])) rfl (by rw [hml]; rfl) rfl (hb hby d4_1) (by decide) (W := 0) (by show 2 * 0 + _ ≤ _; exact Nat.le_of_eq rfl) (by decide)
 refine own_go (fun tg k => st1 tg k) ?_
 show oF (T1.setTop (mkF m 4 #[oR r0, oI 1] []))
 refine own_go (fun _ k => XS.aloadN X1.here hx rfl (hb hby d4_4) rfl rfl k) ?_
 obtain ⟨T2, h2, X2, e2, E2, A2, D2, -, st2⟩ := newO X1 hx hZ hown (oW hw 37 rfl) (oW hw 38 rfl) (oW hw 39 rfl) e1 (g := (mkF m 5 #[oR r0, oI 1] [(.ref r0)])) rfl (hb hby d4_5) (by decide) (by decide)
 obtain ⟨b2, g2⟩ : ∃ z, z = h0.size := ⟨_, rfl⟩
 rw [← g2] at A2 D2 st2
 have ne_r0_b2 : r0 ≠ b2 := Nat.ne_of_lt (Nat.lt_of_lt_of_le E_r0_0.lt (Nat.le_of_eq g2.symm))
 have ge_b2 : n0 ≤ b2 := Nat.le_trans Z0 (Nat.le_of_eq g2.symm)
 have sz_b2 : h0.size ≤ b2 := Nat.le_trans K0.1 (Nat.le_of_eq g2.symm)
 have E_r0_2 := E_r0_0.ext E2
 have F_words_r0_2 := F_words_r0_0.ext E2
 have F_held_r0_2 := F_held_r0_0.ext E2
 have F_blocks_r0_2 := F_blocks_r0_0.ext E2
 have F_sorted_r0_2 := F_sorted_r0_0.ext E2
 have K2 := K0.ext E2
 have Z2 : n0 ≤ h2.size := Nat.le_trans Z0 E2.1
 have E_b2_2 : Exa Z h2 b2 oC3 := A2
 have F_indices_b2_2 : Fld Z h2 b2 oC3 "indices" "[I" .null := D2 (Or.inl (oW hw 46 rfl)) (ty := (.array .int)) (by decide)
 have F_size_b2_2 : Fld Z h2 b2 oC3 "size" "I" (.int 0) := D2 (Or.inl (oW hw 102 rfl)) (ty := .int) (by decide)
 refine own_go (fun tg k => st2 tg k) ?_
 refine own_go (fun _ k => XS.dup X2.here hx rfl (hb hby d4_8) rfl rfl k) ?_
 obtain ⟨_, _, ⟨T3, L3, k3, n3⟩, -, X3, ⟨Lc3, hQ3, l3, y3, z3⟩, st3⟩ := X2.specialBack hx (y := oM5) rfl hown (mvT hZ (oW hw 40 rfl)) (mvT hZ (oW hw 41 rfl)) (mvT hZ (oW hw 42 rfl)) (by decide) (backOf (W := 2) (rm5 l Z a0 hw [] b2 h2 n0 Z2 E_b2_2 F_indices_b2_2 F_size_b2_2 ge_b2) hZ (oW hw 42 rfl) (oW hw 39 rfl) (by decide) (by decide)) (g := (mkF m 9 #[oR r0, oI 1] [(.ref b2), (.ref b2), (.ref r0)])) rfl (by rw [hml]; rfl) (Steps.refl _) (a := b2) (argsL := []) (rest := [(.ref b2), (.ref r0)]) (lenOf own_pd158 rfl) rfl (by show 2 * 0 + _ ≤ _; exact Nat.le_of_eq rfl) (hb hby d4_9) (fun _ _ => ⟨rfl, e2, (by decide : 1 + 1 ≤ _), (by decide : 2 + 16 ≤ _)⟩)
 dsimp only [Pt.U, Pt.locs, Pt.cells, Pt.slots] at X3 l3 y3 z3 st3 hQ3
 replace y3 : 2 = k3 := y3.symm
 replace z3 : 18 = n3 := z3.symm
 subst y3 z3
 obtain ⟨b3b, rfl, N3q, Kq3, szq_b3b, E_b2_3, F_indices_b2_3, F_size_b2_3, A_b3b_3⟩ := hQ3
 have N3 : Fr n0 L3 := by rw [l3]; exact Fr.app N0 N3q
 have ne_r0_b3b : r0 ≠ b3b := Nat.ne_of_lt (Nat.lt_of_lt_of_le E_r0_2.lt szq_b3b)
 have ne_b2_b3b : b2 ≠ b3b := Nat.ne_of_lt (Nat.lt_of_lt_of_le E_b2_2.lt szq_b3b)
 have ge_b3b : n0 ≤ b3b := Nat.le_trans Z2 szq_b3b
 have sz_b3b : h0.size ≤ b3b := Nat.le_trans K2.1 szq_b3b
 have E_r0_3 := E_r0_2.keep Kq3
 have F_words_r0_3 := F_words_r0_2.keep Kq3 (ninS ne_r0_b2 nin0)
 have F_held_r0_3 := F_held_r0_2.keep Kq3 (ninS ne_r0_b2 nin0)
 have F_blocks_r0_3 := F_blocks_r0_2.keep Kq3 (ninS ne_r0_b2 nin0)
 have F_sorted_r0_3 := F_sorted_r0_2.keep Kq3 (ninS ne_r0_b2 nin0)
 have K3 := Keep.trans K2 Kq3 (allS (Or.inr sz_b2) all0)
 have Z3 : n0 ≤ T3.heap.size := Nat.le_trans Z2 Kq3.1
 refine own_go (fun tg k => st3.trans k) ?_
 show oF (T3.setTop (mkF m 12 #[oR r0, oI 1] [(.ref b2), (.ref r0)]))
 obtain ⟨T4, h4, X4, e4, W4, st4⟩ := putF X3 hx hZ hown (host := "") (Or.inl (oW hw 47 rfl)) Via.refl rfl F_blocks_r0_3 E_r0_3 (Or.inr ⟨(oW hw 48 rfl), rfl, hnm⟩) (oW hw 27 rfl) (ty := (.object oC3)) (by decide) rfl rfl (g := (mkF m 12 #[oR r0, oI 1] [(.ref b2), (.ref r0)])) rfl rfl (hb hby d4_12)
 have E_r0_4 := E_r0_3.wr W4
 have F_words_r0_4 := F_words_r0_3.other W4 (Or.inr (own_sn159 hw))
 have F_held_r0_4 := F_held_r0_3.other W4 (Or.inr (own_sn160 hw))
 have F_sorted_r0_4 := F_sorted_r0_3.other W4 (Or.inr (own_sn161 hw))
 have E_b2_4 := E_b2_3.wr W4
 have F_indices_b2_4 := F_indices_b2_3.other W4 (Or.inl (Ne.symm ne_r0_b2))
 have F_size_b2_4 := F_size_b2_3.other W4 (Or.inl (Ne.symm ne_r0_b2))
 have A_b3b_4 := A_b3b_3.other W4 (Ne.symm ne_r0_b3b)
 have K4 := K3.wr W4 (Or.inl (List.mem_of_getElem? (i := 0) rfl))
 have N4 := Fr.snoc X4 N3 ge_r0
 have Z4 : n0 ≤ h4.size := Nat.le_trans Z3 (Keep.of_wr W4).1
 have F_blocks_r0_4 := F_blocks_r0_3.same W4
 refine own_go (fun tg k => st4 tg k) ?_
 refine own_go (fun _ k => XS.aloadN X4.here hx rfl (hb hby d4_15) rfl rfl (XS.iconst X4.here hx rfl (hb hby d4_16) k)) ?_
 obtain ⟨T5, h5, X5, e5, W5, st5⟩ := putFN X4 hx hZ hown (oW hw 49 rfl) Via.refl e4 F_sorted_r0_4 E_r0_4 (Or.inl (oW hw 50 rfl)) (oW hw 27 rfl) (ty := .boolean) (v' := (.int 1)) (by decide) rfl (by decide) (g := (mkF m 17 #[oR r0, oI 1] [(.int 1), (.ref r0)])) rfl rfl (hb hby d4_17)
 have E_r0_5 := E_r0_4.wr W5
 have F_words_r0_5 := F_words_r0_4.other W5 (Or.inr (own_sn162 hw))
 have F_held_r0_5 := F_held_r0_4.other W5 (Or.inr (own_sn163 hw))
 have F_blocks_r0_5 := F_blocks_r0_4.other W5 (Or.inr (own_sn164 hw))
 have E_b2_5 := E_b2_4.wr W5
 have F_indices_b2_5 := F_indices_b2_4.other W5 (Or.inl (Ne.symm ne_r0_b2))
 have F_size_b2_5 := F_size_b2_4.other W5 (Or.inl (Ne.symm ne_r0_b2))
 have A_b3b_5 := A_b3b_4.other W5 (Ne.symm ne_r0_b3b)
 have K5 := K4.wr W5 (Or.inl (List.mem_of_getElem? (i := 0) rfl))
 have N5 := Fr.snoc X5 N4 ge_r0
 have Z5 : n0 ≤ h5.size := Nat.le_trans Z4 (Keep.of_wr W5).1
 have F_sorted_r0_5 := F_sorted_r0_4.same W5
 refine own_go (fun tg k => st5 tg k) ?_
 refine own_go (fun _ k => XS.aloadN X5.here hx rfl (hb hby d4_20) rfl rfl (XS.iloadN X5.here hx rfl (hb hby d4_21) rfl (XS.bipush X5.here hx rfl (hb hby d4_22) (XS.imul X5.here hx rfl (hb hby d4_24) rfl k)))) ?_
 show oF (T5.setTop (mkF m 25 #[oR r0, oI 1] [(.int 16), (.ref r0)]))
 obtain ⟨T6, h6, k6, X6, e6, E6, A6, st6⟩ := newP X5 hx hZ (oW hw 51 rfl) e5 (g := (mkF m 25 #[oR r0, oI 1] [(.int 16), (.ref r0)])) rfl (hb hby d4_25) rfl (by decide) (cap := 16) (by decide) (by decide) (by decide) (by decide)
 obtain ⟨b6, g6⟩ : ∃ z, z = h5.size := ⟨_, rfl⟩
 rw [← g6] at A6 st6
 have ne_r0_b6 : r0 ≠ b6 := Nat.ne_of_lt (Nat.lt_of_lt_of_le E_r0_5.lt (Nat.le_of_eq g6.symm))
 have ne_b2_b6 : b2 ≠ b6 := Nat.ne_of_lt (Nat.lt_of_lt_of_le E_b2_5.lt (Nat.le_of_eq g6.symm))
 have ne_b3b_b6 : b3b ≠ b6 := Nat.ne_of_lt (Nat.lt_of_lt_of_le A_b3b_5.lt (Nat.le_of_eq g6.symm))
 have ge_b6 : n0 ≤ b6 := Nat.le_trans Z5 (Nat.le_of_eq g6.symm)
 have sz_b6 : h0.size ≤ b6 := Nat.le_trans K5.1 (Nat.le_of_eq g6.symm)
 have E_r0_6 := E_r0_5.ext E6
 have F_words_r0_6 := F_words_r0_5.ext E6
 have F_held_r0_6 := F_held_r0_5.ext E6
 have F_blocks_r0_6 := F_blocks_r0_5.ext E6
 have F_sorted_r0_6 := F_sorted_r0_5.ext E6
 have E_b2_6 := E_b2_5.ext E6
 have F_indices_b2_6 := F_indices_b2_5.ext E6
 have F_size_b2_6 := F_size_b2_5.ext E6
 have A_b3b_6 := A_b3b_5.ext E6
 have K6 := K5.ext E6
 have Z6 : n0 ≤ h6.size := Nat.le_trans Z5 E6.1
 have A_b6_6 : own_Arf Z h6 b6 .long (16 : Int32) (fun i => .long ((fun _ => (0 : Int64)) i)) := own_Arf.new A6 (by decide)
 refine own_go (fun tg k => st6 tg k) ?_
 obtain ⟨T7, h7, X7, e7, W7, st7⟩ := putF X6 hx hZ hown (host := "") (Or.inl (oW hw 52 rfl)) Via.refl e6 F_words_r0_6 E_r0_6 (Or.inr ⟨(oW hw 53 rfl), rfl, hnm⟩) (oW hw 27 rfl) (ty := (.array .long)) (by decide) rfl rfl (g := (mkF m 27 #[oR r0, oI 1] [(.ref b6), (.ref r0)])) rfl rfl (hb hby d4_27)
 have E_r0_7 := E_r0_6.wr W7
 have F_held_r0_7 := F_held_r0_6.other W7 (Or.inr (own_sn165 hw))
 have F_blocks_r0_7 := F_blocks_r0_6.other W7 (Or.inr (own_sn166 hw))
 have F_sorted_r0_7 := F_sorted_r0_6.other W7 (Or.inr (own_sn167 hw))
 have E_b2_7 := E_b2_6.wr W7
 have F_indices_b2_7 := F_indices_b2_6.other W7 (Or.inl (Ne.symm ne_r0_b2))
 have F_size_b2_7 := F_size_b2_6.other W7 (Or.inl (Ne.symm ne_r0_b2))
 have A_b3b_7 := A_b3b_6.other W7 (Ne.symm ne_r0_b3b)
 have A_b6_7 := A_b6_6.other W7 (Ne.symm ne_r0_b6)
 have K7 := K6.wr W7 (Or.inl (List.mem_of_getElem? (i := 0) rfl))
 have N7 := Fr.snoc X7 N5 ge_r0
 have Z7 : n0 ≤ h7.size := Nat.le_trans Z6 (Keep.of_wr W7).1
 have F_words_r0_7 := F_words_r0_6.same W7
 refine own_go (fun tg k => st7 tg k) ?_
 refine own_go (fun _ k => XS.aloadN X7.here hx rfl (hb hby d4_30) rfl rfl (XS.iloadN X7.here hx rfl (hb hby d4_31) rfl k)) ?_
 obtain ⟨T8, h8, k8, X8, e8, E8, A8, st8⟩ := newP X7 hx hZ (oW hw 54 rfl) e7 (g := (mkF m 32 #[oR r0, oI 1] [(.int 1), (.ref r0)])) rfl (hb hby d4_32) rfl (by decide) (cap := 1) (by decide) (by decide) (by decide) (by decide)
 obtain ⟨b8, g8⟩ : ∃ z, z = h7.size := ⟨_, rfl⟩
 rw [← g8] at A8 st8
 have ne_r0_b8 : r0 ≠ b8 := Nat.ne_of_lt (Nat.lt_of_lt_of_le E_r0_7.lt (Nat.le_of_eq g8.symm))
 have ne_b2_b8 : b2 ≠ b8 := Nat.ne_of_lt (Nat.lt_of_lt_of_le E_b2_7.lt (Nat.le_of_eq g8.symm))
 have ne_b3b_b8 : b3b ≠ b8 := Nat.ne_of_lt (Nat.lt_of_lt_of_le A_b3b_7.lt (Nat.le_of_eq g8.symm))
 have ne_b6_b8 : b6 ≠ b8 := Nat.ne_of_lt (Nat.lt_of_lt_of_le A_b6_7.lt (Nat.le_of_eq g8.symm))
 have ge_b8 : n0 ≤ b8 := Nat.le_trans Z7 (Nat.le_of_eq g8.symm)
 have sz_b8 : h0.size ≤ b8 := Nat.le_trans K7.1 (Nat.le_of_eq g8.symm)
 have E_r0_8 := E_r0_7.ext E8
 have F_words_r0_8 := F_words_r0_7.ext E8
 have F_held_r0_8 := F_held_r0_7.ext E8
 have F_blocks_r0_8 := F_blocks_r0_7.ext E8
 have F_sorted_r0_8 := F_sorted_r0_7.ext E8
 have E_b2_8 := E_b2_7.ext E8
 have F_indices_b2_8 := F_indices_b2_7.ext E8
 have F_size_b2_8 := F_size_b2_7.ext E8
 have A_b3b_8 := A_b3b_7.ext E8
 have A_b6_8 := A_b6_7.ext E8
 have K8 := K7.ext E8
 have Z8 : n0 ≤ h8.size := Nat.le_trans Z7 E8.1
 have A_b8_8 : own_Arf Z h8 b8 .boolean (1 : Int32) (fun i => .int ((fun _ => (0 : Int32)) i)) := own_Arf.new A8 (by decide)
 refine own_go (fun tg k => st8 tg k) ?_
 obtain ⟨T9, h9, X9, e9, W9, st9⟩ := putF X8 hx hZ hown (host := "") (Or.inl (oW hw 55 rfl)) Via.refl e8 F_held_r0_8 E_r0_8 (Or.inr ⟨(oW hw 56 rfl), rfl, hnm⟩) (oW hw 27 rfl) (ty := (.array .boolean)) (by decide) rfl rfl (g := (mkF m 34 #[oR r0, oI 1] [(.ref b8), (.ref r0)])) rfl rfl (hb hby d4_34)
 have E_r0_9 := E_r0_8.wr W9
 have F_words_r0_9 := F_words_r0_8.other W9 (Or.inr (own_sn168 hw))
 have F_blocks_r0_9 := F_blocks_r0_8.other W9 (Or.inr (own_sn169 hw))
 have F_sorted_r0_9 := F_sorted_r0_8.other W9 (Or.inr (own_sn170 hw))
 have E_b2_9 := E_b2_8.wr W9
 have F_indices_b2_9 := F_indices_b2_8.other W9 (Or.inl (Ne.symm ne_r0_b2))
 have F_size_b2_9 := F_size_b2_8.other W9 (Or.inl (Ne.symm ne_r0_b2))
 have A_b3b_9 := A_b3b_8.other W9 (Ne.symm ne_r0_b3b)
 have A_b6_9 := A_b6_8.other W9 (Ne.symm ne_r0_b6)
 have A_b8_9 := A_b8_8.other W9 (Ne.symm ne_r0_b8)
 have K9 := K8.wr W9 (Or.inl (List.mem_of_getElem? (i := 0) rfl))
 have N9 := Fr.snoc X9 N7 ge_r0
 have Z9 : n0 ≤ h9.size := Nat.le_trans Z8 (Keep.of_wr W9).1
 have F_held_r0_9 := F_held_r0_8.same W9
 refine own_go (fun tg k => st9 tg k) ?_
 refine own_retV X9 hx hlk Bd.returns (hb hby d4_37) (Nat.le_of_ble_eq_true rfl) (Nat.le_of_ble_eq_true rfl) ?_
 rw [e9]
 refine ⟨b2, b3b, b6, b8, rfl, N9, K9, sz_b2, sz_b3b, sz_b6, sz_b8, E_r0_9, ?_, ?_, ?_, ?_, E_b2_9, ?_, ?_, ?_, ?_, ?_⟩
 · (exact F_words_r0_9)
 · (exact F_held_r0_9)
 · (exact F_blocks_r0_9)
 · (exact F_sorted_r0_9)
 · (exact F_indices_b2_9)
 · (exact F_size_b2_9)
 · (exact A_b3b_9)
 · ( exact own_Arf.fn A_b6_9 (fun j hj => congrArg Value.long (own_w00 j)))
 · (exact A_b8_9)
theorem own_pd194 : parseMethodDescriptor "()I" = some ⟨[], some .int⟩ := by decide +kernel
theorem d10_0 : oQ oD11 0 (.aload_n 0) 1 := by decide +kernel
theorem d10_1 : oQ oD11 1 (.getfield 14) 3 := by decide +kernel
theorem d10_4 : oQ oD11 4 (.invokevirtual 36) 3 := by decide +kernel
theorem d10_7 : oQ oD11 7 .ireturn 1 := by decide +kernel
theorem pn_10 : plainName oC1 = true := by first | (simp [plainName, overriddenIn]; done) | decide +kernel
theorem ef_10 (m : MethodId) (r0 : Addr) : entryFrame m #[(.ref r0)] 1 = mkF m 0 #[oR r0] [] := by first | (simp [entryFrame, mkF, argsToLocals, Value.category]; done) | rfl
def rm10_room : Room := { frames := 1, cells := 0, slots := 0, locals := 12 }
def Qrm10 (Z : State) (r0 : Addr) (il : Addr) (x1 : Int32) (h0 : Heap) (n0 : Nat) (v : Option Value) (h : Heap) (L : List Loc) : Prop := v = some (.int x1) ∧ Fr n0 L ∧ h = h0
set_option maxRecDepth 65536 in
set_option maxHeartbeats 40000000 in
theorem rm10 (l : Launch) (Z : State) (a0 : Array Value) (hw : oH Z a0) (ws : List Jvm.Cond) (r0 : Addr) (il : Addr) (x1 : Int32) (h0 : Heap) (n0 : Nat) (Z0 : n0 ≤ h0.size) (F_blocks_r0_0 : Fld Z h0 r0 oC1 "blocks" oC5 (.ref il)) (E_il_0 : Exa Z h0 il oC3) (F_size_il_0 : Fld Z h0 il oC3 "size" "I" (.int x1)) :
    MetFree l oM11 (head1 (Jvm.Cond.code oM11 prog_49_method_6_code 1 (some .int) :: ws) rm10_room) (fun a U => a = #[(.ref r0)] ∧ Z.Warmed39 U.vm ∧ U.heap = h0) (fun _ _ _ _ _ => True) (fun _ U o U' => ∃ v L, o = .returned v ∧ Qrm10 Z r0 il x1 h0 n0 v U'.heap L ∧ FrameEnd U o U' L rm10_room.cells rm10_room.slots) := by
 refine MetFree.of_bodySF (plainFor_of_name pn_10) hisR ?_
 intro p e s m args below meth c s₁ Bd hml0 hP hK
 obtain ⟨rfl, hZ, hh⟩ := hP
 have hx := Bd.exec
 have hby := Bd.bytes
 have hml : c.maxLocals = 1 := hml0
 have hown : s.vm.findClass oC1 = some m.cls := findClass_of_methodNamed Bd.named
 have hnm := (name_of_methodNamed Bd.named Bd.method).1
 have hlk : meth.locks = false := BodyLoose.notSynchronized Bd
 have X0 : Stand p l e rm10_room s m #[(.ref r0)] below meth c s₁ [] 0 0 := Stand.of_body Bd
 have e0 : s₁.heap = h0 := by rw [← hh, Bd.state]; rfl
 have N0 := Fr.nil n0
 show own_Fin p.tables e below s (Qrm10 Z r0 il x1 h0 n0) rm10_room.cells rm10_room.slots (s₁.setTop (entryFrame m #[(.ref r0)] 1))
 rw [ef_10]
 show oF (s₁.setTop (mkF m 0 #[oR r0] []))
 refine own_go (fun _ k => XS.aloadN X0.here hx rfl (hb hby d10_0) rfl rfl k) ?_
 obtain ⟨T1, X1, e1, st1⟩ := getF X0 hx hZ hown (host := "") (Or.inl (oW hw 47 rfl)) Via.refl e0 F_blocks_r0_0 (g := (mkF m 1 #[oR r0] [(.ref r0)])) rfl rfl (hb hby d10_1)
 refine own_go (fun tg k => st1 tg k) ?_
 obtain ⟨cq2, kq2, q2a, q2b, q2c⟩ := isOf hZ e1 E_il_0
 obtain ⟨_, _, ⟨T2, L2, k2, n2⟩, -, X2, ⟨Lc2, hQ2, l2, y2, z2⟩, st2⟩ := X1.virtualBack hx (y := oM6) (z := oM6) hown (mvT hZ (oW hw 96 rfl)) (mvT hZ (oW hw 97 rfl)) (notFace_of_selects (args := #[]) (mvT hZ (oW hw 99 rfl))) (mvT hZ (oW hw 99 rfl)) (mvT hZ (oW hw 98 rfl)) (by decide) (backOf (W := 0) (rm11 l Z a0 hw [] il x1 h0 n0 Z0 F_size_il_0) hZ (oW hw 100 rfl) (oW hw 39 rfl) (by decide) (by decide)) q2a q2c (g := (mkF m 4 #[oR r0] [(.ref il)])) rfl (by rw [hml]; rfl) (Steps.refl _) (argsL := []) (rest := []) (lenOf own_pd194 rfl) rfl (by show 2 * 0 + _ ≤ _; exact Nat.le_of_eq rfl) (hb hby d10_4) (fun _ _ => ⟨rfl, e1, (by decide : 0 + 0 ≤ _), (by decide : 0 + 0 ≤ _)⟩)
 dsimp only [Pt.U, Pt.locs, Pt.cells, Pt.slots] at X2 l2 y2 z2 st2 hQ2
 replace y2 : 0 = k2 := y2.symm
 replace z2 : 0 = n2 := z2.symm
 subst y2 z2
 obtain ⟨rfl, N2q, e2⟩ := hQ2
 have N2 : Fr n0 L2 := by rw [l2]; exact Fr.app N0 N2q
 refine own_go (fun tg k => st2.trans k) ?_
 show oF (T2.setTop (mkF m 7 #[oR r0] [(.int x1)]))
 refine own_ret X2 hx hlk Bd.returns rfl (Or.inl ⟨rfl, by simp, _, rfl⟩) (hb hby d10_7) (Nat.le_of_ble_eq_true rfl) (Nat.le_of_ble_eq_true rfl) ?_
 refine ⟨?_, N2, e2⟩
 · rfl
theorem d17_0 : oQ oD12 0 (.aload_n 0) 1 := by decide +kernel
theorem d17_1 : oQ oD12 1 (.getfield 20) 3 := by decide +kernel
theorem d17_4 : oQ oD12 4 (.ifCond .ne 15) 3 := by decide +kernel
theorem d17_19 : oQ oD12 19 .return_ 1 := by decide +kernel
theorem pn_17 : plainName oC1 = true := by first | (simp [plainName, overriddenIn]; done) | decide +kernel
theorem ef_17 (m : MethodId) (r0 : Addr) : entryFrame m #[(.ref r0)] 1 = mkF m 0 #[oR r0] [] := by first | (simp [entryFrame, mkF, argsToLocals, Value.category]; done) | rfl
def rm17_room : Room := { frames := 0, cells := 0, slots := 0, locals := 0 }
def Qrm17 (Z : State) (r0 : Addr) (h0 : Heap) (n0 : Nat) (v : Option Value) (h : Heap) (L : List Loc) : Prop := v = none ∧ Fr n0 L ∧ h = h0
set_option maxRecDepth 65536 in
set_option maxHeartbeats 40000000 in
theorem rm17 (l : Launch) (Z : State) (a0 : Array Value) (hw : oH Z a0) (ws : List Jvm.Cond) (r0 : Addr) (h0 : Heap) (n0 : Nat) (Z0 : n0 ≤ h0.size) (F_sorted_r0_0 : Fld Z h0 r0 oC1 "sorted" "Z" (.int 1)) :
    MetFree l oM12 (head1 (Jvm.Cond.code oM12 prog_49_method_5_code 1 none :: ws) rm17_room) (fun a U => a = #[(.ref r0)] ∧ Z.Warmed39 U.vm ∧ U.heap = h0) (fun _ _ _ _ _ => True) (fun _ U o U' => ∃ v L, o = .returned v ∧ Qrm17 Z r0 h0 n0 v U'.heap L ∧ FrameEnd U o U' L rm17_room.cells rm17_room.slots) := by
 refine MetFree.of_bodySF (plainFor_of_name pn_17) hisR ?_
 intro p e s m args below meth c s₁ Bd hml0 hP hK
 obtain ⟨rfl, hZ, hh⟩ := hP
 have hx := Bd.exec
 have hby := Bd.bytes
 have hml : c.maxLocals = 1 := hml0
 have hown : s.vm.findClass oC1 = some m.cls := findClass_of_methodNamed Bd.named
 have hnm := (name_of_methodNamed Bd.named Bd.method).1
 have hlk : meth.locks = false := BodyLoose.notSynchronized Bd
 have X0 : Stand p l e rm17_room s m #[(.ref r0)] below meth c s₁ [] 0 0 := Stand.of_body Bd
 have e0 : s₁.heap = h0 := by rw [← hh, Bd.state]; rfl
 have N0 := Fr.nil n0
 show own_Fin p.tables e below s (Qrm17 Z r0 h0 n0) rm17_room.cells rm17_room.slots (s₁.setTop (entryFrame m #[(.ref r0)] 1))
 rw [ef_17]
 show oF (s₁.setTop (mkF m 0 #[oR r0] []))
 refine own_go (fun _ k => XS.aloadN X0.here hx rfl (hb hby d17_0) rfl rfl k) ?_
 obtain ⟨T1, X1, e1, st1⟩ := getF X0 hx hZ hown (host := "") (Or.inl (oW hw 49 rfl)) Via.refl e0 F_sorted_r0_0 (g := (mkF m 1 #[oR r0] [(.ref r0)])) rfl rfl (hb hby d17_1)
 refine own_go (fun tg k => st1 tg k) ?_
 refine own_go (fun _ k => XS.ifYes X1.here hx rfl (pc0 := 4) (pc' := 19) rfl (hb hby d17_4) rfl ((if0 _ _).trans (feq (by decide)).2) (by decide) (by decide) k) ?_
 show oF (T1.setTop (mkF m 19 #[oR r0] []))
 refine own_retV X1 hx hlk Bd.returns (hb hby d17_19) (Nat.le_of_ble_eq_true rfl) (Nat.le_of_ble_eq_true rfl) ?_
 refine ⟨rfl, N0, e1⟩
theorem d18_0 : oQ oD13 0 (.aload_n 0) 1 := by decide +kernel
theorem d18_1 : oQ oD13 1 (.getfield 20) 3 := by decide +kernel
theorem d18_4 : oQ oD13 4 (.ifCond .ne 13) 3 := by decide +kernel
theorem d18_17 : oQ oD13 17 (.aload_n 0) 1 := by decide +kernel
theorem d18_18 : oQ oD13 18 (.getfield 14) 3 := by decide +kernel
theorem d18_21 : oQ oD13 21 (.iload_n 1) 1 := by decide +kernel
theorem d18_22 : oQ oD13 22 (.invokevirtual 40) 3 := by decide +kernel
theorem d18_25 : oQ oD13 25 .ireturn 1 := by decide +kernel
theorem pn_18 : plainName oC1 = true := by first | (simp [plainName, overriddenIn]; done) | decide +kernel
theorem ef_18_0Int32 (m : MethodId) (r0 : Addr) : entryFrame m #[(.ref r0), (.int 0)] 2 = mkF m 0 #[oR r0, oI 0] [] := by first | (simp [entryFrame, mkF, argsToLocals, Value.category]; done) | rfl
def rm18_room : Room := { frames := 1, cells := 0, slots := 0, locals := 13 }
def Qrm18 (Z : State) (r0 : Addr) (il : Addr) (ix : Addr) (fi : Nat → Int32) (h0 : Heap) (n0 : Nat) (v : Option Value) (h : Heap) (L : List Loc) : Prop := v = some (.int (fi 0)) ∧ Fr n0 L ∧ h = h0
set_option maxRecDepth 65536 in
set_option maxHeartbeats 40000000 in
theorem rm18 (l : Launch) (Z : State) (a0 : Array Value) (hw : oH Z a0) (ws : List Jvm.Cond) (r0 : Addr) (il : Addr) (ix : Addr) (fi : Nat → Int32) (h0 : Heap) (n0 : Nat) (Z0 : n0 ≤ h0.size) (F_sorted_r0_0 : Fld Z h0 r0 oC1 "sorted" "Z" (.int 1)) (F_blocks_r0_0 : Fld Z h0 r0 oC1 "blocks" oC5 (.ref il)) (E_il_0 : Exa Z h0 il oC3) (F_indices_il_0 : Fld Z h0 il oC3 "indices" "[I" (.ref ix)) (A_ix_0 : own_Arf Z h0 ix .int (16 : Int32) (fun i => .int (fi i))) :
    MetFree l oM13 (head1 (Jvm.Cond.code oM13 prog_49_method_7_code 2 (some .int) :: ws) rm18_room) (fun a U => a = #[(.ref r0), (.int 0)] ∧ Z.Warmed39 U.vm ∧ U.heap = h0) (fun _ _ _ _ _ => True) (fun _ U o U' => ∃ v L, o = .returned v ∧ Qrm18 Z r0 il ix fi h0 n0 v U'.heap L ∧ FrameEnd U o U' L rm18_room.cells rm18_room.slots) := by
 refine MetFree.of_bodySF (plainFor_of_name pn_18) hisR ?_
 intro p e s m args below meth c s₁ Bd hml0 hP hK
 obtain ⟨rfl, hZ, hh⟩ := hP
 have hx := Bd.exec
 have hby := Bd.bytes
 have hml : c.maxLocals = 2 := hml0
 have hown : s.vm.findClass oC1 = some m.cls := findClass_of_methodNamed Bd.named
 have hnm := (name_of_methodNamed Bd.named Bd.method).1
 have hlk : meth.locks = false := BodyLoose.notSynchronized Bd
 have X0 : Stand p l e rm18_room s m #[(.ref r0), (.int 0)] below meth c s₁ [] 0 0 := Stand.of_body Bd
 have e0 : s₁.heap = h0 := by rw [← hh, Bd.state]; rfl
 have N0 := Fr.nil n0
 show own_Fin p.tables e below s (Qrm18 Z r0 il ix fi h0 n0) rm18_room.cells rm18_room.slots (s₁.setTop (entryFrame m #[(.ref r0), (.int 0)] 2))
 rw [ef_18_0Int32]
 show oF (s₁.setTop (mkF m 0 #[oR r0, oI 0] []))
 refine own_go (fun _ k => XS.aloadN X0.here hx rfl (hb hby d18_0) rfl rfl k) ?_
 obtain ⟨T1, X1, e1, st1⟩ := getF X0 hx hZ hown (host := "") (Or.inl (oW hw 49 rfl)) Via.refl e0 F_sorted_r0_0 (g := (mkF m 1 #[oR r0, oI 0] [(.ref r0)])) rfl rfl (hb hby d18_1)
 refine own_go (fun tg k => st1 tg k) ?_
 refine own_go (fun _ k => XS.ifYes X1.here hx rfl (pc0 := 4) (pc' := 17) rfl (hb hby d18_4) rfl ((if0 _ _).trans (feq (by decide)).2) (by decide) (by decide) (XS.aloadN X1.here hx rfl (hb hby d18_17) rfl rfl k)) ?_
 obtain ⟨T2, X2, e2, st2⟩ := getF X1 hx hZ hown (host := "") (Or.inl (oW hw 47 rfl)) Via.refl e1 F_blocks_r0_0 (g := (mkF m 18 #[oR r0, oI 0] [(.ref r0)])) rfl rfl (hb hby d18_18)
 refine own_go (fun tg k => st2 tg k) ?_
 refine own_go (fun _ k => XS.iloadN X2.here hx rfl (hb hby d18_21) rfl k) ?_
 obtain ⟨cq3, kq3, q3a, q3b, q3c⟩ := isOf hZ e2 E_il_0
 obtain ⟨_, _, ⟨T3, L3, k3, n3⟩, -, X3, ⟨Lc3, hQ3, l3, y3, z3⟩, st3⟩ := X2.virtualBack hx (y := oM7) (z := oM7) hown (mvT hZ (oW hw 150 rfl)) (mvT hZ (oW hw 151 rfl)) (notFace_of_selects (args := #[]) (mvT hZ (oW hw 153 rfl))) (mvT hZ (oW hw 153 rfl)) (mvT hZ (oW hw 152 rfl)) (by decide) (backOf (W := 0) (rm19 l Z a0 hw [] il (0 : Int32) ix fi h0 n0 Z0 F_indices_il_0 A_ix_0 ⟨by decide, by decide⟩) hZ (oW hw 154 rfl) (oW hw 39 rfl) (by decide) (by decide)) q3a q3c (g := (mkF m 22 #[oR r0, oI 0] [(.int 0), (.ref il)])) rfl (by rw [hml]; rfl) (Steps.refl _) (argsL := [(.int 0)]) (rest := []) (lenOf own_pd90 rfl) rfl (by show 2 * 0 + _ ≤ _; exact Nat.le_of_eq rfl) (hb hby d18_22) (fun _ _ => ⟨rfl, e2, (by decide : 0 + 0 ≤ _), (by decide : 0 + 0 ≤ _)⟩)
 dsimp only [Pt.U, Pt.locs, Pt.cells, Pt.slots] at X3 l3 y3 z3 st3 hQ3
 replace y3 : 0 = k3 := y3.symm
 replace z3 : 0 = n3 := z3.symm
 subst y3 z3
 obtain ⟨rfl, N3q, e3⟩ := hQ3
 have N3 : Fr n0 L3 := by rw [l3]; exact Fr.app N0 N3q
 refine own_go (fun tg k => st3.trans k) ?_
 show oF (T3.setTop (mkF m 25 #[oR r0, oI 0] [(.int (fi (0 : Int32).toNatClampNeg))]))
 refine own_ret X3 hx hlk Bd.returns rfl (Or.inl ⟨rfl, by simp, _, rfl⟩) (hb hby d18_25) (Nat.le_of_ble_eq_true rfl) (Nat.le_of_ble_eq_true rfl) ?_
 refine ⟨?_, N3, e3⟩
 · rfl
theorem d31_0 : oQ oD14 0 (.iload_n 1) 1 := by decide +kernel
theorem d31_1 : oQ oD14 1 (.iload_n 2) 1 := by decide +kernel
theorem d31_2 : oQ oD14 2 (.if_icmp .le 44) 3 := by decide +kernel
theorem d31_46 : oQ oD14 46 (.iload_n 1) 1 := by decide +kernel
theorem d31_47 : oQ oD14 47 (.ifCond .ge 12) 3 := by decide +kernel
theorem d31_59 : oQ oD14 59 (.iload_n 2) 1 := by decide +kernel
theorem d31_60 : oQ oD14 60 (.iload_n 0) 1 := by decide +kernel
theorem d31_61 : oQ oD14 61 (.if_icmp .le 12) 3 := by decide +kernel
theorem d31_73 : oQ oD14 73 .return_ 1 := by decide +kernel
theorem pn_31 : plainName oC10 = true := by first | (simp [plainName, overriddenIn]; done) | decide +kernel
theorem ef_31 (m : MethodId) (p0 : Int32) (p1 : Int32) (p2 : Int32) : entryFrame m #[(.int p0), (.int p1), (.int p2)] 3 = mkF m 0 #[oI p0, oI p1, oI p2] [] := by first | (simp [entryFrame, mkF, argsToLocals, Value.category]; done) | rfl
def rm31_room : Room := { frames := 0, cells := 0, slots := 0, locals := 0 }
def Qrm31 (Z : State) (p0 : Int32) (p1 : Int32) (p2 : Int32) (h0 : Heap) (n0 : Nat) (v : Option Value) (h : Heap) (L : List Loc) : Prop := v = none ∧ Fr n0 L ∧ h = h0
set_option maxRecDepth 65536 in
set_option maxHeartbeats 40000000 in
theorem rm31 (l : Launch) (Z : State) (a0 : Array Value) (hw : oH Z a0) (ws : List Jvm.Cond) (p0 : Int32) (p1 : Int32) (p2 : Int32) (h0 : Heap) (n0 : Nat) (Z0 : n0 ≤ h0.size) (h1 : ¬ (p2 < p1)) (h2 : ¬ (p1 < (0 : Int32))) (h3 : ¬ (p0 < p2)) :
    MetFree l oM14 (head1 (Jvm.Cond.code oM14 jdk_65_method_30_code 3 none :: ws) rm31_room) (fun a U => a = #[(.int p0), (.int p1), (.int p2)] ∧ Z.Warmed39 U.vm ∧ U.heap = h0) (fun _ _ _ _ _ => True) (fun _ U o U' => ∃ v L, o = .returned v ∧ Qrm31 Z p0 p1 p2 h0 n0 v U'.heap L ∧ FrameEnd U o U' L rm31_room.cells rm31_room.slots) := by
 refine MetFree.of_bodySF (plainFor_of_name pn_31) hisR ?_
 intro p e s m args below meth c s₁ Bd hml0 hP hK
 obtain ⟨rfl, hZ, hh⟩ := hP
 have hx := Bd.exec
 have hby := Bd.bytes
 have hml : c.maxLocals = 3 := hml0
 have hown : s.vm.findClass oC10 = some m.cls := findClass_of_methodNamed Bd.named
 have hnm := (name_of_methodNamed Bd.named Bd.method).1
 have hlk : meth.locks = false := BodyLoose.notSynchronized Bd
 have X0 : Stand p l e rm31_room s m #[(.int p0), (.int p1), (.int p2)] below meth c s₁ [] 0 0 := Stand.of_body Bd
 have e0 : s₁.heap = h0 := by rw [← hh, Bd.state]; rfl
 have N0 := Fr.nil n0
 show own_Fin p.tables e below s (Qrm31 Z p0 p1 p2 h0 n0) rm31_room.cells rm31_room.slots (s₁.setTop (entryFrame m #[(.int p0), (.int p1), (.int p2)] 3))
 rw [ef_31]
 show oF (s₁.setTop (mkF m 0 #[oI p0, oI p1, oI p2] []))
 refine own_go (fun _ k => XS.iloadN X0.here hx rfl (hb hby d31_0) rfl (XS.iloadN X0.here hx rfl (hb hby d31_1) rfl k)) ?_
 have hc2 : ¬ (p2 < p1) := h1
 refine own_go (fun _ k => XS.icmpYes X0.here hx rfl (pc0 := 2) (pc' := 46) rfl (hb hby d31_2) rfl (flt hc2).2.2.2 (by decide) (by decide) (XS.iloadN X0.here hx rfl (hb hby d31_46) rfl k)) ?_
 have hc47 : ¬ (p1 < (0 : Int32)) := h2
 refine own_go (fun _ k => XS.ifYes X0.here hx rfl (pc0 := 47) (pc' := 59) rfl (hb hby d31_47) rfl ((if0 _ _).trans (flt hc47).2.1) (by decide) (by decide) (XS.iloadN X0.here hx rfl (hb hby d31_59) rfl (XS.iloadN X0.here hx rfl (hb hby d31_60) rfl k))) ?_
 have hc61 : ¬ (p0 < p2) := h3
 refine own_go (fun _ k => XS.icmpYes X0.here hx rfl (pc0 := 61) (pc' := 73) rfl (hb hby d31_61) rfl (flt hc61).2.2.2 (by decide) (by decide) k) ?_
 refine own_retV X0 hx hlk Bd.returns (hb hby d31_73) (Nat.le_of_ble_eq_true rfl) (Nat.le_of_ble_eq_true rfl) ?_
 refine ⟨rfl, N0, e0⟩
theorem own_pd228 : parseMethodDescriptor "(III)V" = some ⟨[.int, .int, .int], none⟩ := by decide +kernel
theorem d30_0 : oQ oD15 0 (.aload_n 0) 1 := by decide +kernel
theorem d30_1 : oQ oD15 1 .arraylength 1 := by decide +kernel
theorem d30_2 : oQ oD15 2 (.iload_n 1) 1 := by decide +kernel
theorem d30_3 : oQ oD15 3 (.iload_n 2) 1 := by decide +kernel
theorem d30_4 : oQ oD15 4 (.invokestatic 13) 3 := by decide +kernel
theorem d30_7 : oQ oD15 7 (.iload_n 1) 1 := by decide +kernel
theorem d30_8 : oQ oD15 8 (.istore 4) 2 := by decide +kernel
theorem d30_10 : oQ oD15 10 (.iload 4) 2 := by decide +kernel
theorem d30_12 : oQ oD15 12 (.iload_n 2) 1 := by decide +kernel
theorem d30_13 : oQ oD15 13 (.if_icmp .ge 14) 3 := by decide +kernel
theorem d30_16 : oQ oD15 16 (.aload_n 0) 1 := by decide +kernel
theorem d30_17 : oQ oD15 17 (.iload 4) 2 := by decide +kernel
theorem d30_19 : oQ oD15 19 (.iload_n 3) 1 := by decide +kernel
theorem d30_20 : oQ oD15 20 .iastore 1 := by decide +kernel
theorem d30_21 : oQ oD15 21 (.iinc 4 1) 3 := by decide +kernel
theorem d30_24 : oQ oD15 24 (.goto (-14)) 3 := by decide +kernel
theorem d30_27 : oQ oD15 27 .return_ 1 := by decide +kernel
theorem pn_30 : plainName oC10 = true := by first | (simp [plainName, overriddenIn]; done) | decide +kernel
theorem ef_30_0Int32 (m : MethodId) (r0 : Addr) (p2 : Int32) (p3 : Int32) : entryFrame m #[(.ref r0), (.int 0), (.int p2), (.int p3)] 5 = mkF m 0 #[oR r0, oI 0, oI p2, oI p3, oU] [] := by first | (simp [entryFrame, mkF, argsToLocals, Value.category]; done) | rfl
def rm30_room : Room := { frames := 1, cells := 0, slots := 0, locals := 14 }
def Qrm30 (Z : State) (r0 : Addr) (p2 : Int32) (p3 : Int32) (f : Nat → Int32) (h0 : Heap) (n0 : Nat) (v : Option Value) (h : Heap) (L : List Loc) : Prop := v = none ∧ Fr n0 L ∧ Keep h0 h [r0] ∧ own_Arf Z h r0 .int p2 (fun i => .int ((fun _ => p3) i))
set_option maxRecDepth 65536 in
set_option maxHeartbeats 40000000 in
theorem rm30 (l : Launch) (Z : State) (a0 : Array Value) (hw : oH Z a0) (ws : List Jvm.Cond) (r0 : Addr) (p2 : Int32) (p3 : Int32) (f : Nat → Int32) (h0 : Heap) (n0 : Nat) (Z0 : n0 ≤ h0.size) (A_r0_0 : own_Arf Z h0 r0 .int p2 (fun i => .int (f i))) (ge_r0 : n0 ≤ r0) :
    MetFree l oM15 (head1 (Jvm.Cond.code oM15 jdk_65_method_104_code 5 none :: ws) rm30_room) (fun a U => a = #[(.ref r0), (.int 0), (.int p2), (.int p3)] ∧ Z.Warmed39 U.vm ∧ U.heap = h0) (fun _ _ _ _ _ => True) (fun _ U o U' => ∃ v L, o = .returned v ∧ Qrm30 Z r0 p2 p3 f h0 n0 v U'.heap L ∧ FrameEnd U o U' L rm30_room.cells rm30_room.slots) := by
 refine MetFree.of_bodySF (plainFor_of_name pn_30) hisR ?_
 intro p e s m args below meth c s₁ Bd hml0 hP hK
 obtain ⟨rfl, hZ, hh⟩ := hP
 have hx := Bd.exec
 have hby := Bd.bytes
 have hml : c.maxLocals = 5 := hml0
 have hown : s.vm.findClass oC10 = some m.cls := findClass_of_methodNamed Bd.named
 have hnm := (name_of_methodNamed Bd.named Bd.method).1
 have hlk : meth.locks = false := BodyLoose.notSynchronized Bd
 have X0 : Stand p l e rm30_room s m #[(.ref r0), (.int 0), (.int p2), (.int p3)] below meth c s₁ [] 0 0 := Stand.of_body Bd
 have e0 : s₁.heap = h0 := by rw [← hh, Bd.state]; rfl
 have N0 := Fr.nil n0
 show own_Fin p.tables e below s (Qrm30 Z r0 p2 p3 f h0 n0) rm30_room.cells rm30_room.slots (s₁.setTop (entryFrame m #[(.ref r0), (.int 0), (.int p2), (.int p3)] 5))
 rw [ef_30_0Int32]
 show oF (s₁.setTop (mkF m 0 #[oR r0, oI 0, oI p2, oI p3, oU] []))
 have K0 := Keep.refl h0 [r0]
 refine own_go (fun _ k => XS.aloadN X0.here hx rfl (hb hby d30_0) rfl rfl k) ?_
 refine own_go (fun tg k => own_alen X0 hx hZ e0 A_r0_0 (g := (mkF m 1 #[oR r0, oI 0, oI p2, oI p3, oU] [(.ref r0)])) rfl rfl (hb hby d30_1) tg k) ?_
 refine own_go (fun _ k => XS.iloadN X0.here hx rfl (hb hby d30_2) rfl (XS.iloadN X0.here hx rfl (hb hby d30_3) rfl k)) ?_
 obtain ⟨_, _, ⟨T1, L1, k1, n1⟩, -, X1, ⟨Lc1, hQ1, l1, y1, z1⟩, st1⟩ := Jvm.LawKit.callS X0 hx (y := oM14) hown (mvT hZ (oW hw 203 rfl)) (mvT hZ (oW hw 204 rfl)) (mvT hZ (oW hw 201 rfl)) (mvT hZ (oW hw 205 rfl)) (by decide) (backOf (W := 0) (rm31 l Z a0 hw [] p2 (0 : Int32) p2 h0 n0 Z0 A_r0_0.nneg (by decide) (fun q => Int32.lt_irrefl q)) hZ (oW hw 205 rfl) (oW hw 201 rfl) (by decide) (by decide)) (g := (mkF m 4 #[oR r0, oI 0, oI p2, oI p3, oU] [(.int p2), (.int 0), (.int p2)])) rfl (by rw [hml]; rfl) (argsL := [(.int p2), (.int 0), (.int p2)]) (rest := []) (lenOf own_pd228 rfl) rfl (by show 2 * 0 + _ ≤ _; exact Nat.le_of_eq rfl) (hb hby d30_4) (fun _ _ => ⟨rfl, e0, (by decide : 0 + 0 ≤ _), (by decide : 0 + 0 ≤ _)⟩)
 dsimp only [Pt.U, Pt.locs, Pt.cells, Pt.slots] at X1 l1 y1 z1 st1 hQ1
 replace y1 : 0 = k1 := y1.symm
 replace z1 : 0 = n1 := z1.symm
 subst y1 z1
 obtain ⟨rfl, N1q, e1⟩ := hQ1
 have N1 : Fr n0 L1 := by rw [l1]; exact Fr.app N0 N1q
 refine own_go (fun tg k => st1 tg k) ?_
 show oF (T1.setTop (mkF m 7 #[oR r0, oI 0, oI p2, oI p3, oU] []))
 refine own_go (fun _ k => XS.iloadN X1.here hx rfl (hb hby d30_7) rfl (XS.istore X1.here hx rfl (hb hby d30_8) rfl (l' := #[oR r0, oI 0, oI p2, oI p3, oI 0]) rfl k)) ?_
 show oF (T1.setTop (mkF m 10 #[oR r0, oI 0, oI p2, oI p3, oI 0] []))
 have loopA : ∀ (kA : Nat) (i : Int32) (fL : Nat → Int32) (TAL : State) (LAL : List Loc) (hAL : Heap), kA = (p2.toInt - i.toInt).toNat → ¬ i < 0 → i ≤ p2 → (∀ j : Nat, j < p2.toNatClampNeg → fL j = if j < i.toNatClampNeg then p3 else f j) → Stand p l e rm30_room s m #[(.ref r0), (.int 0), (.int p2), (.int p3)] below meth c TAL LAL 0 0 → Fr n0 LAL → TAL.heap = hAL → n0 ≤ hAL.size → Keep h0 hAL [r0] → own_Arf Z hAL r0 .int p2 (fun i => .int (fL i)) → own_Fin p.tables e below s (Qrm30 Z r0 p2 p3 f h0 n0) rm30_room.cells rm30_room.slots (TAL.setTop (mkF m 10 #[oR r0, oI 0, oI p2, oI p3, oI i] [])) := by
  intro kA
  induction kA using Nat.strongRecOn with
  | _ kA ihA =>
   intro i fL TAL LAL hAL hkA hLi hLe hLf XAL NAL eAL ZAL KAL A_r0_AL
   show oF (TAL.setTop (mkF m 10 #[oR r0, oI 0, oI p2, oI p3, oI i] []))
   refine own_go (fun _ k => XS.iload XAL.here hx rfl (hb hby d30_10) rfl (XS.iloadN XAL.here hx rfl (hb hby d30_12) rfl k)) ?_
   by_cases hc2 : i < p2
   · refine own_go (fun _ k => XS.icmpNo XAL.here hx rfl (hb hby d30_13) rfl (tlt hc2).2.1 (XS.aloadN XAL.here hx rfl (hb hby d30_16) rfl rfl (XS.iload XAL.here hx rfl (hb hby d30_17) rfl (XS.iloadN XAL.here hx rfl (hb hby d30_19) rfl k)))) ?_
     obtain ⟨T3, h3, X3, e3, W3, A_r0_3, st3⟩ := own_stI XAL hx hZ eAL A_r0_AL (j := i) ⟨hLi, hc2⟩ (g := (mkF m 20 #[oR r0, oI 0, oI p2, oI p3, oI i] [(.int p3), (.int i), (.ref r0)])) rfl rfl (hb hby d30_20)
     have K3 := KAL.wr W3 (Or.inl (List.mem_of_getElem? (i := 0) rfl))
     have N3 := Fr.snoc X3 NAL ge_r0
     have Z3 : n0 ≤ h3.size := Nat.le_trans ZAL (Keep.of_wr W3).1
     refine own_go (fun tg k => st3 tg k) ?_
     refine own_go (fun _ k => XS.iinc X3.here hx rfl (hb hby d30_21) rfl (l' := #[oR r0, oI 0, oI p2, oI p3, .val (.int (i + (1 : Int32)))]) rfl (XS.goto X3.here hx rfl (pc0 := 24) (pc' := 10) rfl (hb hby d30_24) (by decide) (by decide) k)) ?_
     show oF (T3.setTop (mkF m 10 #[oR r0, oI 0, oI p2, oI p3, .val (.int (i + (1 : Int32)))] []))
     exact ihA _ (own_fillM hLi hc2 hkA) ((i + (1 : Int32))) (own_set fL i p3) T3 _ h3 rfl (own_fillI hLi hc2).1 (own_fillI hLi hc2).2 (own_fillS hLi hc2 hLf) (own_mono X3 (by decide) (by decide)) N3 e3 Z3 K3 A_r0_3
   · refine own_go (fun _ k => XS.icmpYes XAL.here hx rfl (pc0 := 13) (pc' := 27) rfl (hb hby d30_13) rfl (flt hc2).2.1 (by decide) (by decide) k) ?_
     show oF (TAL.setTop (mkF m 27 #[oR r0, oI 0, oI p2, oI p3, oI i] []))
     refine own_retV XAL hx hlk Bd.returns (hb hby d30_27) (Nat.le_of_ble_eq_true rfl) (Nat.le_of_ble_eq_true rfl) ?_
     rw [eAL]
     refine ⟨rfl, NAL, KAL, ?_⟩
     · ( exact own_Arf.fn A_r0_AL (fun j hj => congrArg Value.int (own_fillE hLe hc2 hLf j hj)))
 exact loopA _ ((0 : Int32)) f T1 _ h0 rfl (by decide) (own_le0 A_r0_0.nneg) (fun j hj => rfl) (own_mono X1 (by decide) (by decide)) N1 e1 Z0 K0 A_r0_0
theorem d32_0 : oQ oD16 0 (.aload_n 0) 1 := by decide +kernel
theorem d32_1 : oQ oD16 1 .arraylength 1 := by decide +kernel
theorem d32_2 : oQ oD16 2 (.iload_n 1) 1 := by decide +kernel
theorem d32_3 : oQ oD16 3 (.iload_n 2) 1 := by decide +kernel
theorem d32_4 : oQ oD16 4 (.invokestatic 13) 3 := by decide +kernel
theorem d32_7 : oQ oD16 7 (.iload_n 1) 1 := by decide +kernel
theorem d32_8 : oQ oD16 8 (.istore 5) 2 := by decide +kernel
theorem d32_10 : oQ oD16 10 (.iload 5) 2 := by decide +kernel
theorem d32_12 : oQ oD16 12 (.iload_n 2) 1 := by decide +kernel
theorem d32_13 : oQ oD16 13 (.if_icmp .ge 14) 3 := by decide +kernel
theorem d32_16 : oQ oD16 16 (.aload_n 0) 1 := by decide +kernel
theorem d32_17 : oQ oD16 17 (.iload 5) 2 := by decide +kernel
theorem d32_19 : oQ oD16 19 (.lload_n 3) 1 := by decide +kernel
theorem d32_20 : oQ oD16 20 .lastore 1 := by decide +kernel
theorem d32_21 : oQ oD16 21 (.iinc 5 1) 3 := by decide +kernel
theorem d32_24 : oQ oD16 24 (.goto (-14)) 3 := by decide +kernel
theorem d32_27 : oQ oD16 27 .return_ 1 := by decide +kernel
theorem pn_32 : plainName oC10 = true := by first | (simp [plainName, overriddenIn]; done) | decide +kernel
theorem ef_32_0Int32 (m : MethodId) (r0 : Addr) (p2 : Int32) (q3 : Int64) : entryFrame m #[(.ref r0), (.int 0), (.int p2), (.long q3)] 6 = mkF m 0 #[oR r0, oI 0, oI p2, oJ q3, oS, oU] [] := by first | (simp [entryFrame, mkF, argsToLocals, Value.category]; done) | rfl
def rm32_room : Room := { frames := 1, cells := 0, slots := 0, locals := 14 }
def Qrm32 (Z : State) (r0 : Addr) (p2 : Int32) (q3 : Int64) (f : Nat → Int64) (h0 : Heap) (n0 : Nat) (v : Option Value) (h : Heap) (L : List Loc) : Prop := v = none ∧ Fr n0 L ∧ Keep h0 h [r0] ∧ own_Arf Z h r0 .long p2 (fun i => .long ((fun _ => q3) i))
set_option maxRecDepth 65536 in
set_option maxHeartbeats 40000000 in
theorem rm32 (l : Launch) (Z : State) (a0 : Array Value) (hw : oH Z a0) (ws : List Jvm.Cond) (r0 : Addr) (p2 : Int32) (q3 : Int64) (f : Nat → Int64) (h0 : Heap) (n0 : Nat) (Z0 : n0 ≤ h0.size) (A_r0_0 : own_Arf Z h0 r0 .long p2 (fun i => .long (f i))) (ge_r0 : n0 ≤ r0) :
    MetFree l oM16 (head1 (Jvm.Cond.code oM16 jdk_65_method_102_code 6 none :: ws) rm32_room) (fun a U => a = #[(.ref r0), (.int 0), (.int p2), (.long q3)] ∧ Z.Warmed39 U.vm ∧ U.heap = h0) (fun _ _ _ _ _ => True) (fun _ U o U' => ∃ v L, o = .returned v ∧ Qrm32 Z r0 p2 q3 f h0 n0 v U'.heap L ∧ FrameEnd U o U' L rm32_room.cells rm32_room.slots) := by
 refine MetFree.of_bodySF (plainFor_of_name pn_32) hisR ?_
 intro p e s m args below meth c s₁ Bd hml0 hP hK
 obtain ⟨rfl, hZ, hh⟩ := hP
 have hx := Bd.exec
 have hby := Bd.bytes
 have hml : c.maxLocals = 6 := hml0
 have hown : s.vm.findClass oC10 = some m.cls := findClass_of_methodNamed Bd.named
 have hnm := (name_of_methodNamed Bd.named Bd.method).1
 have hlk : meth.locks = false := BodyLoose.notSynchronized Bd
 have X0 : Stand p l e rm32_room s m #[(.ref r0), (.int 0), (.int p2), (.long q3)] below meth c s₁ [] 0 0 := Stand.of_body Bd
 have e0 : s₁.heap = h0 := by rw [← hh, Bd.state]; rfl
 have N0 := Fr.nil n0
 show own_Fin p.tables e below s (Qrm32 Z r0 p2 q3 f h0 n0) rm32_room.cells rm32_room.slots (s₁.setTop (entryFrame m #[(.ref r0), (.int 0), (.int p2), (.long q3)] 6))
 rw [ef_32_0Int32]
 show oF (s₁.setTop (mkF m 0 #[oR r0, oI 0, oI p2, oJ q3, oS, oU] []))
 have K0 := Keep.refl h0 [r0]
 refine own_go (fun _ k => XS.aloadN X0.here hx rfl (hb hby d32_0) rfl rfl k) ?_
 refine own_go (fun tg k => own_alen X0 hx hZ e0 A_r0_0 (g := (mkF m 1 #[oR r0, oI 0, oI p2, oJ q3, oS, oU] [(.ref r0)])) rfl rfl (hb hby d32_1) tg k) ?_
 refine own_go (fun _ k => XS.iloadN X0.here hx rfl (hb hby d32_2) rfl (XS.iloadN X0.here hx rfl (hb hby d32_3) rfl k)) ?_
 obtain ⟨_, _, ⟨T1, L1, k1, n1⟩, -, X1, ⟨Lc1, hQ1, l1, y1, z1⟩, st1⟩ := Jvm.LawKit.callS X0 hx (y := oM14) hown (mvT hZ (oW hw 203 rfl)) (mvT hZ (oW hw 204 rfl)) (mvT hZ (oW hw 201 rfl)) (mvT hZ (oW hw 205 rfl)) (by decide) (backOf (W := 0) (rm31 l Z a0 hw [] p2 (0 : Int32) p2 h0 n0 Z0 A_r0_0.nneg (by decide) (fun q => Int32.lt_irrefl q)) hZ (oW hw 205 rfl) (oW hw 201 rfl) (by decide) (by decide)) (g := (mkF m 4 #[oR r0, oI 0, oI p2, oJ q3, oS, oU] [(.int p2), (.int 0), (.int p2)])) rfl (by rw [hml]; rfl) (argsL := [(.int p2), (.int 0), (.int p2)]) (rest := []) (lenOf own_pd228 rfl) rfl (by show 2 * 0 + _ ≤ _; exact Nat.le_of_eq rfl) (hb hby d32_4) (fun _ _ => ⟨rfl, e0, (by decide : 0 + 0 ≤ _), (by decide : 0 + 0 ≤ _)⟩)
 dsimp only [Pt.U, Pt.locs, Pt.cells, Pt.slots] at X1 l1 y1 z1 st1 hQ1
 replace y1 : 0 = k1 := y1.symm
 replace z1 : 0 = n1 := z1.symm
 subst y1 z1
 obtain ⟨rfl, N1q, e1⟩ := hQ1
 have N1 : Fr n0 L1 := by rw [l1]; exact Fr.app N0 N1q
 refine own_go (fun tg k => st1 tg k) ?_
 show oF (T1.setTop (mkF m 7 #[oR r0, oI 0, oI p2, oJ q3, oS, oU] []))
 refine own_go (fun _ k => XS.iloadN X1.here hx rfl (hb hby d32_7) rfl (XS.istore X1.here hx rfl (hb hby d32_8) rfl (l' := #[oR r0, oI 0, oI p2, oJ q3, oS, oI 0]) rfl k)) ?_
 show oF (T1.setTop (mkF m 10 #[oR r0, oI 0, oI p2, oJ q3, oS, oI 0] []))
 have loopA : ∀ (kA : Nat) (i : Int32) (fL : Nat → Int64) (TAL : State) (LAL : List Loc) (hAL : Heap), kA = (p2.toInt - i.toInt).toNat → ¬ i < 0 → i ≤ p2 → (∀ j : Nat, j < p2.toNatClampNeg → fL j = if j < i.toNatClampNeg then q3 else f j) → Stand p l e rm32_room s m #[(.ref r0), (.int 0), (.int p2), (.long q3)] below meth c TAL LAL 0 0 → Fr n0 LAL → TAL.heap = hAL → n0 ≤ hAL.size → Keep h0 hAL [r0] → own_Arf Z hAL r0 .long p2 (fun i => .long (fL i)) → own_Fin p.tables e below s (Qrm32 Z r0 p2 q3 f h0 n0) rm32_room.cells rm32_room.slots (TAL.setTop (mkF m 10 #[oR r0, oI 0, oI p2, oJ q3, oS, oI i] [])) := by
  intro kA
  induction kA using Nat.strongRecOn with
  | _ kA ihA =>
   intro i fL TAL LAL hAL hkA hLi hLe hLf XAL NAL eAL ZAL KAL A_r0_AL
   show oF (TAL.setTop (mkF m 10 #[oR r0, oI 0, oI p2, oJ q3, oS, oI i] []))
   refine own_go (fun _ k => XS.iload XAL.here hx rfl (hb hby d32_10) rfl (XS.iloadN XAL.here hx rfl (hb hby d32_12) rfl k)) ?_
   by_cases hc2 : i < p2
   · refine own_go (fun _ k => XS.icmpNo XAL.here hx rfl (hb hby d32_13) rfl (tlt hc2).2.1 (XS.aloadN XAL.here hx rfl (hb hby d32_16) rfl rfl (XS.iload XAL.here hx rfl (hb hby d32_17) rfl (XS.lloadN XAL.here hx rfl (hb hby d32_19) rfl k)))) ?_
     obtain ⟨T3, h3, X3, e3, W3, A_r0_3, st3⟩ := own_stJ XAL hx hZ eAL A_r0_AL (j := i) ⟨hLi, hc2⟩ (g := (mkF m 20 #[oR r0, oI 0, oI p2, oJ q3, oS, oI i] [(.long q3), (.int i), (.ref r0)])) rfl rfl (hb hby d32_20)
     have K3 := KAL.wr W3 (Or.inl (List.mem_of_getElem? (i := 0) rfl))
     have N3 := Fr.snoc X3 NAL ge_r0
     have Z3 : n0 ≤ h3.size := Nat.le_trans ZAL (Keep.of_wr W3).1
     refine own_go (fun tg k => st3 tg k) ?_
     refine own_go (fun _ k => XS.iinc X3.here hx rfl (hb hby d32_21) rfl (l' := #[oR r0, oI 0, oI p2, oJ q3, oS, .val (.int (i + (1 : Int32)))]) rfl (XS.goto X3.here hx rfl (pc0 := 24) (pc' := 10) rfl (hb hby d32_24) (by decide) (by decide) k)) ?_
     show oF (T3.setTop (mkF m 10 #[oR r0, oI 0, oI p2, oJ q3, oS, .val (.int (i + (1 : Int32)))] []))
     exact ihA _ (own_fillM hLi hc2 hkA) ((i + (1 : Int32))) (own_set fL i q3) T3 _ h3 rfl (own_fillI hLi hc2).1 (own_fillI hLi hc2).2 (own_fillS hLi hc2 hLf) (own_mono X3 (by decide) (by decide)) N3 e3 Z3 K3 A_r0_3
   · refine own_go (fun _ k => XS.icmpYes XAL.here hx rfl (pc0 := 13) (pc' := 27) rfl (hb hby d32_13) rfl (flt hc2).2.1 (by decide) (by decide) k) ?_
     show oF (TAL.setTop (mkF m 27 #[oR r0, oI 0, oI p2, oJ q3, oS, oI i] []))
     refine own_retV XAL hx hlk Bd.returns (hb hby d32_27) (Nat.le_of_ble_eq_true rfl) (Nat.le_of_ble_eq_true rfl) ?_
     rw [eAL]
     refine ⟨rfl, NAL, KAL, ?_⟩
     · ( exact own_Arf.fn A_r0_AL (fun j hj => congrArg Value.long (own_fillE hLe hc2 hLf j hj)))
 exact loopA _ ((0 : Int32)) f T1 _ h0 rfl (by decide) (own_le0 A_r0_0.nneg) (fun j hj => rfl) (own_mono X1 (by decide) (by decide)) N1 e1 Z0 K0 A_r0_0
theorem d12_0 : oQ oD17 0 (.iconst 0) 1 := by decide +kernel
theorem d12_1 : oQ oD17 1 (.istore_n 1) 1 := by decide +kernel
theorem d12_2 : oQ oD17 2 (.iload_n 1) 1 := by decide +kernel
theorem d12_3 : oQ oD17 3 (.aload_n 0) 1 := by decide +kernel
theorem d12_4 : oQ oD17 4 (.getfield 14) 3 := by decide +kernel
theorem d12_7 : oQ oD17 7 (.invokevirtual 36) 3 := by decide +kernel
theorem d12_10 : oQ oD17 10 (.if_icmp .ge 43) 3 := by decide +kernel
theorem d12_53 : oQ oD17 53 (.aload_n 0) 1 := by decide +kernel
theorem d12_54 : oQ oD17 54 (.getfield 14) 3 := by decide +kernel
theorem d12_57 : oQ oD17 57 (.invokevirtual 69) 3 := by decide +kernel
theorem d12_60 : oQ oD17 60 (.aload_n 0) 1 := by decide +kernel
theorem d12_61 : oQ oD17 61 (.iconst 1) 1 := by decide +kernel
theorem d12_62 : oQ oD17 62 (.putfield 20) 3 := by decide +kernel
theorem d12_65 : oQ oD17 65 .return_ 1 := by decide +kernel
theorem pn_12 : plainName oC1 = true := by first | (simp [plainName, overriddenIn]; done) | decide +kernel
theorem ef_12 (m : MethodId) (r0 : Addr) : entryFrame m #[(.ref r0)] 3 = mkF m 0 #[oR r0, oU, oU] [] := by first | (simp [entryFrame, mkF, argsToLocals, Value.category]; done) | rfl
def rm12z_room : Room := { frames := 1, cells := 0, slots := 0, locals := 13 }
def Qrm12z (Z : State) (r0 : Addr) (wd : Addr) (hd : Addr) (il : Addr) (ix : Addr) (fi : Nat → Int32) (h0 : Heap) (n0 : Nat) (v : Option Value) (h : Heap) (L : List Loc) : Prop := v = none ∧ Fr n0 L ∧ Keep h0 h [r0, wd, hd, il] ∧ Exa Z h r0 oC1 ∧ Fld Z h r0 oC1 "words" "[J" (.ref wd) ∧ Fld Z h r0 oC1 "held" "[Z" (.ref hd) ∧ Fld Z h r0 oC1 "blocks" oC5 (.ref il) ∧ Fld Z h r0 oC1 "sorted" "Z" (.int 1) ∧ Exa Z h il oC3 ∧ Fld Z h il oC3 "indices" "[I" (.ref ix) ∧ Fld Z h il oC3 "size" "I" (.int 0) ∧ own_Arf Z h wd .long (16 : Int32) (fun i => .long ((own_w0 (0 : Int64)) i)) ∧ own_Arf Z h hd .boolean (1 : Int32) (fun i => .int ((fun _ => (0 : Int32)) i))
set_option maxRecDepth 65536 in
set_option maxHeartbeats 40000000 in
theorem rm12z (l : Launch) (Z : State) (a0 : Array Value) (hw : oH Z a0) (ws : List Jvm.Cond) (r0 : Addr) (wd : Addr) (hd : Addr) (il : Addr) (ix : Addr) (fi : Nat → Int32) (h0 : Heap) (n0 : Nat) (Z0 : n0 ≤ h0.size) (E_r0_0 : Exa Z h0 r0 oC1) (F_words_r0_0 : Fld Z h0 r0 oC1 "words" "[J" (.ref wd)) (F_held_r0_0 : Fld Z h0 r0 oC1 "held" "[Z" (.ref hd)) (F_blocks_r0_0 : Fld Z h0 r0 oC1 "blocks" oC5 (.ref il)) (F_sorted_r0_0 : Fld Z h0 r0 oC1 "sorted" "Z" (.int 1)) (E_il_0 : Exa Z h0 il oC3) (F_indices_il_0 : Fld Z h0 il oC3 "indices" "[I" (.ref ix)) (F_size_il_0 : Fld Z h0 il oC3 "size" "I" (.int 0)) (A_ix_0 : own_Arf Z h0 ix .int (16 : Int32) (fun i => .int (fi i))) (A_wd_0 : own_Arf Z h0 wd .long (16 : Int32) (fun i => .long ((own_w0 (0 : Int64)) i))) (A_hd_0 : own_Arf Z h0 hd .boolean (1 : Int32) (fun i => .int ((fun _ => (0 : Int32)) i))) (ge_r0 : n0 ≤ r0) (ge_wd : n0 ≤ wd) (ge_hd : n0 ≤ hd) (ge_il : n0 ≤ il) (ge_ix : n0 ≤ ix) :
    MetFree l oM17 (head1 (Jvm.Cond.code oM17 prog_49_method_9_code 3 none :: ws) rm12z_room) (fun a U => a = #[(.ref r0)] ∧ Z.Warmed39 U.vm ∧ U.heap = h0) (fun _ _ _ _ _ => True) (fun _ U o U' => ∃ v L, o = .returned v ∧ Qrm12z Z r0 wd hd il ix fi h0 n0 v U'.heap L ∧ FrameEnd U o U' L rm12z_room.cells rm12z_room.slots) := by
 refine MetFree.of_bodySF (plainFor_of_name pn_12) hisR ?_
 intro p e s m args below meth c s₁ Bd hml0 hP hK
 obtain ⟨rfl, hZ, hh⟩ := hP
 have hx := Bd.exec
 have hby := Bd.bytes
 have hml : c.maxLocals = 3 := hml0
 have hown : s.vm.findClass oC1 = some m.cls := findClass_of_methodNamed Bd.named
 have hnm := (name_of_methodNamed Bd.named Bd.method).1
 have hlk : meth.locks = false := BodyLoose.notSynchronized Bd
 have X0 : Stand p l e rm12z_room s m #[(.ref r0)] below meth c s₁ [] 0 0 := Stand.of_body Bd
 have e0 : s₁.heap = h0 := by rw [← hh, Bd.state]; rfl
 have N0 := Fr.nil n0
 show own_Fin p.tables e below s (Qrm12z Z r0 wd hd il ix fi h0 n0) rm12z_room.cells rm12z_room.slots (s₁.setTop (entryFrame m #[(.ref r0)] 3))
 rw [ef_12]
 show oF (s₁.setTop (mkF m 0 #[oR r0, oU, oU] []))
 have K0 := Keep.refl h0 [r0, wd, hd, il]
 refine own_go (fun _ k => XS.iconst X0.here hx rfl (hb hby d12_0) (XS.istoreN X0.here hx rfl (hb hby d12_1) rfl (l' := #[oR r0, oI 0, oU]) rfl (XS.iloadN X0.here hx rfl (hb hby d12_2) rfl (XS.aloadN X0.here hx rfl (hb hby d12_3) rfl rfl k)))) ?_
 obtain ⟨T1, X1, e1, st1⟩ := getF X0 hx hZ hown (host := "") (Or.inl (oW hw 47 rfl)) Via.refl e0 F_blocks_r0_0 (g := (mkF m 4 #[oR r0, oI 0, oU] [(.ref r0), (.int 0)])) rfl rfl (hb hby d12_4)
 refine own_go (fun tg k => st1 tg k) ?_
 obtain ⟨cq2, kq2, q2a, q2b, q2c⟩ := isOf hZ e1 E_il_0
 obtain ⟨_, _, ⟨T2, L2, k2, n2⟩, -, X2, ⟨Lc2, hQ2, l2, y2, z2⟩, st2⟩ := X1.virtualBack hx (y := oM6) (z := oM6) hown (mvT hZ (oW hw 96 rfl)) (mvT hZ (oW hw 97 rfl)) (notFace_of_selects (args := #[]) (mvT hZ (oW hw 99 rfl))) (mvT hZ (oW hw 99 rfl)) (mvT hZ (oW hw 98 rfl)) (by decide) (backOf (W := 1) (rm11 l Z a0 hw [] il (0 : Int32) h0 n0 Z0 F_size_il_0) hZ (oW hw 100 rfl) (oW hw 39 rfl) (by decide) (by decide)) q2a q2c (g := (mkF m 7 #[oR r0, oI 0, oU] [(.ref il), (.int 0)])) rfl (by rw [hml]; rfl) (Steps.refl _) (argsL := []) (rest := [(.int 0)]) (lenOf own_pd194 rfl) rfl (by show 2 * 0 + _ ≤ _; exact Nat.le_of_eq rfl) (hb hby d12_7) (fun _ _ => ⟨rfl, e1, (by decide : 0 + 0 ≤ _), (by decide : 0 + 0 ≤ _)⟩)
 dsimp only [Pt.U, Pt.locs, Pt.cells, Pt.slots] at X2 l2 y2 z2 st2 hQ2
 replace y2 : 0 = k2 := y2.symm
 replace z2 : 0 = n2 := z2.symm
 subst y2 z2
 obtain ⟨rfl, N2q, e2⟩ := hQ2
 have N2 : Fr n0 L2 := by rw [l2]; exact Fr.app N0 N2q
 refine own_go (fun tg k => st2.trans k) ?_
 show oF (T2.setTop (mkF m 10 #[oR r0, oI 0, oU] [(.int 0), (.int 0)]))
 refine own_go (fun _ k => XS.icmpYes X2.here hx rfl (pc0 := 10) (pc' := 53) rfl (hb hby d12_10) rfl (flt (by decide)).2.1 (by decide) (by decide) k) ?_
 show oF (T2.setTop (mkF m 53 #[oR r0, oI 0, oU] []))
 refine own_go (fun _ k => XS.aloadN X2.here hx rfl (hb hby d12_53) rfl rfl k) ?_
 obtain ⟨T3, X3, e3, st3⟩ := getF X2 hx hZ hown (host := "") (Or.inl (oW hw 47 rfl)) Via.refl e2 F_blocks_r0_0 (g := (mkF m 54 #[oR r0, oI 0, oU] [(.ref r0)])) rfl rfl (hb hby d12_54)
 refine own_go (fun tg k => st3 tg k) ?_
 obtain ⟨cq4, kq4, q4a, q4b, q4c⟩ := isOf hZ e3 E_il_0
 obtain ⟨_, _, ⟨T4, L4, k4, n4⟩, -, X4, ⟨Lc4, hQ4, l4, y4, z4⟩, st4⟩ := X3.virtualBack hx (y := oM8) (z := oM8) hown (mvT hZ (oW hw 108 rfl)) (mvT hZ (oW hw 109 rfl)) (notFace_of_selects (args := #[]) (mvT hZ (oW hw 111 rfl))) (mvT hZ (oW hw 111 rfl)) (mvT hZ (oW hw 110 rfl)) (by decide) (backOf (W := 0) (rm13 l Z a0 hw [] il (0 : Int32) ix h0 n0 Z0 E_il_0 F_size_il_0 F_indices_il_0 ge_il) hZ (oW hw 112 rfl) (oW hw 39 rfl) (by decide) (by decide)) q4a q4c (g := (mkF m 57 #[oR r0, oI 0, oU] [(.ref il)])) rfl (by rw [hml]; rfl) (Steps.refl _) (argsL := []) (rest := []) (lenOf own_pd158 rfl) rfl (by show 2 * 0 + _ ≤ _; exact Nat.le_of_eq rfl) (hb hby d12_57) (fun _ _ => ⟨rfl, e3, (by decide : 0 + 0 ≤ _), (by decide : 0 + 0 ≤ _)⟩)
 dsimp only [Pt.U, Pt.locs, Pt.cells, Pt.slots] at X4 l4 y4 z4 st4 hQ4
 replace y4 : 0 = k4 := y4.symm
 replace z4 : 0 = n4 := z4.symm
 subst y4 z4
 obtain ⟨rfl, N4q, Kq4, E_il_4, F_size_il_4, F_indices_il_4⟩ := hQ4
 have N4 : Fr n0 L4 := by rw [l4]; exact Fr.app N2 N4q
 have E_r0_4 := E_r0_0.keep Kq4
 have u4_r0 := (ninS (ne_exa E_r0_0 E_il_0 (by decide)) nin0)
 have F_words_r0_4 := F_words_r0_0.keep Kq4 u4_r0
 have F_held_r0_4 := F_held_r0_0.keep Kq4 u4_r0
 have F_blocks_r0_4 := F_blocks_r0_0.keep Kq4 u4_r0
 have F_sorted_r0_4 := F_sorted_r0_0.keep Kq4 u4_r0
 have A_ix_4 := A_ix_0.keep Kq4 (ninS (Ne.symm (own_ne_arf E_il_0 (oW hw 38 rfl) A_ix_0)) nin0)
 have A_wd_4 := A_wd_0.keep Kq4 (ninS (Ne.symm (own_ne_arf E_il_0 (oW hw 38 rfl) A_wd_0)) nin0)
 have A_hd_4 := A_hd_0.keep Kq4 (ninS (Ne.symm (own_ne_arf E_il_0 (oW hw 38 rfl) A_hd_0)) nin0)
 have K4 := Keep.trans K0 Kq4 (allS (Or.inl (List.mem_of_getElem? (i := 3) rfl)) all0)
 have Z4 : n0 ≤ T4.heap.size := Nat.le_trans Z0 Kq4.1
 refine own_go (fun tg k => st4.trans k) ?_
 show oF (T4.setTop (mkF m 60 #[oR r0, oI 0, oU] []))
 refine own_go (fun _ k => XS.aloadN X4.here hx rfl (hb hby d12_60) rfl rfl (XS.iconst X4.here hx rfl (hb hby d12_61) k)) ?_
 obtain ⟨T5, h5, X5, e5, W5, st5⟩ := putFN X4 hx hZ hown (oW hw 49 rfl) Via.refl rfl F_sorted_r0_4 E_r0_4 (Or.inl (oW hw 50 rfl)) (oW hw 27 rfl) (ty := .boolean) (v' := (.int 1)) (by decide) rfl (by decide) (g := (mkF m 62 #[oR r0, oI 0, oU] [(.int 1), (.ref r0)])) rfl rfl (hb hby d12_62)
 have E_r0_5 := E_r0_4.wr W5
 have F_words_r0_5 := F_words_r0_4.other W5 (Or.inr (own_sn162 hw))
 have F_held_r0_5 := F_held_r0_4.other W5 (Or.inr (own_sn163 hw))
 have F_blocks_r0_5 := F_blocks_r0_4.other W5 (Or.inr (own_sn164 hw))
 have E_il_5 := E_il_4.wr W5
 have u5_il := (ne_exa E_il_4 E_r0_4 (by decide))
 have F_indices_il_5 := F_indices_il_4.other W5 (Or.inl u5_il)
 have F_size_il_5 := F_size_il_4.other W5 (Or.inl u5_il)
 have A_ix_5 := A_ix_4.other W5 (Ne.symm (own_ne_arf E_r0_4 (oW hw 27 rfl) A_ix_4))
 have A_wd_5 := A_wd_4.other W5 (Ne.symm (own_ne_arf E_r0_4 (oW hw 27 rfl) A_wd_4))
 have A_hd_5 := A_hd_4.other W5 (Ne.symm (own_ne_arf E_r0_4 (oW hw 27 rfl) A_hd_4))
 have K5 := K4.wr W5 (Or.inl (List.mem_of_getElem? (i := 0) rfl))
 have N5 := Fr.snoc X5 N4 ge_r0
 have Z5 : n0 ≤ h5.size := Nat.le_trans Z4 (Keep.of_wr W5).1
 have F_sorted_r0_5 := F_sorted_r0_4.same W5
 refine own_go (fun tg k => st5 tg k) ?_
 refine own_retV X5 hx hlk Bd.returns (hb hby d12_65) (Nat.le_of_ble_eq_true rfl) (Nat.le_of_ble_eq_true rfl) ?_
 rw [e5]
 refine ⟨rfl, N5, K5, E_r0_5, ?_, ?_, ?_, ?_, E_il_5, ?_, ?_, ?_, ?_⟩
 · (exact F_words_r0_5)
 · (exact F_held_r0_5)
 · (exact F_blocks_r0_5)
 · (exact F_sorted_r0_5)
 · (exact F_indices_il_5)
 · (exact F_size_il_5)
 · (exact A_wd_5)
 · (exact A_hd_5)
theorem own_pd283 : parseMethodDescriptor "([JIIJ)V" = some ⟨[(.array .long), .int, .int, .long], none⟩ := by decide +kernel
theorem d12_13 : oQ oD17 13 (.aload_n 0) 1 := by decide +kernel
theorem d12_14 : oQ oD17 14 (.getfield 14) 3 := by decide +kernel
theorem d12_17 : oQ oD17 17 (.iload_n 1) 1 := by decide +kernel
theorem d12_18 : oQ oD17 18 (.invokevirtual 40) 3 := by decide +kernel
theorem d12_21 : oQ oD17 21 (.istore_n 2) 1 := by decide +kernel
theorem d12_22 : oQ oD17 22 (.aload_n 0) 1 := by decide +kernel
theorem d12_23 : oQ oD17 23 (.getfield 24) 3 := by decide +kernel
theorem d12_26 : oQ oD17 26 (.iload_n 2) 1 := by decide +kernel
theorem d12_27 : oQ oD17 27 (.bipush 16) 2 := by decide +kernel
theorem d12_29 : oQ oD17 29 .imul 1 := by decide +kernel
theorem d12_30 : oQ oD17 30 (.iload_n 2) 1 := by decide +kernel
theorem d12_31 : oQ oD17 31 (.iconst 1) 1 := by decide +kernel
theorem d12_32 : oQ oD17 32 .iadd 1 := by decide +kernel
theorem d12_33 : oQ oD17 33 (.bipush 16) 2 := by decide +kernel
theorem d12_35 : oQ oD17 35 .imul 1 := by decide +kernel
theorem d12_36 : oQ oD17 36 (.lconst 0) 1 := by decide +kernel
theorem d12_37 : oQ oD17 37 (.invokestatic 63) 3 := by decide +kernel
theorem d12_40 : oQ oD17 40 (.aload_n 0) 1 := by decide +kernel
theorem d12_41 : oQ oD17 41 (.getfield 28) 3 := by decide +kernel
theorem d12_44 : oQ oD17 44 (.iload_n 2) 1 := by decide +kernel
theorem d12_45 : oQ oD17 45 (.iconst 0) 1 := by decide +kernel
theorem d12_46 : oQ oD17 46 .bastore 1 := by decide +kernel
theorem d12_47 : oQ oD17 47 (.iinc 1 1) 3 := by decide +kernel
theorem d12_50 : oQ oD17 50 (.goto (-48)) 3 := by decide +kernel
def rm12o_room : Room := { frames := 2, cells := 0, slots := 0, locals := 31 }
def Qrm12o (Z : State) (r0 : Addr) (wd : Addr) (hd : Addr) (il : Addr) (ix : Addr) (fi : Nat → Int32) (fw : Nat → Int64) (fh : Nat → Int32) (h0 : Heap) (n0 : Nat) (v : Option Value) (h : Heap) (L : List Loc) : Prop := v = none ∧ Fr n0 L ∧ Keep h0 h [r0, wd, hd, il] ∧ Exa Z h r0 oC1 ∧ Fld Z h r0 oC1 "words" "[J" (.ref wd) ∧ Fld Z h r0 oC1 "held" "[Z" (.ref hd) ∧ Fld Z h r0 oC1 "blocks" oC5 (.ref il) ∧ Fld Z h r0 oC1 "sorted" "Z" (.int 1) ∧ Exa Z h il oC3 ∧ Fld Z h il oC3 "indices" "[I" (.ref ix) ∧ Fld Z h il oC3 "size" "I" (.int 0) ∧ own_Arf Z h wd .long (16 : Int32) (fun i => .long ((own_w0 (0 : Int64)) i)) ∧ own_Arf Z h hd .boolean (1 : Int32) (fun i => .int ((fun _ => (0 : Int32)) i))
set_option maxRecDepth 65536 in
set_option maxHeartbeats 40000000 in
theorem rm12o (l : Launch) (Z : State) (a0 : Array Value) (hw : oH Z a0) (ws : List Jvm.Cond) (r0 : Addr) (wd : Addr) (hd : Addr) (il : Addr) (ix : Addr) (fi : Nat → Int32) (fw : Nat → Int64) (fh : Nat → Int32) (h0 : Heap) (n0 : Nat) (Z0 : n0 ≤ h0.size) (E_r0_0 : Exa Z h0 r0 oC1) (F_words_r0_0 : Fld Z h0 r0 oC1 "words" "[J" (.ref wd)) (F_held_r0_0 : Fld Z h0 r0 oC1 "held" "[Z" (.ref hd)) (F_blocks_r0_0 : Fld Z h0 r0 oC1 "blocks" oC5 (.ref il)) (F_sorted_r0_0 : Fld Z h0 r0 oC1 "sorted" "Z" (.int 1)) (E_il_0 : Exa Z h0 il oC3) (F_indices_il_0 : Fld Z h0 il oC3 "indices" "[I" (.ref ix)) (F_size_il_0 : Fld Z h0 il oC3 "size" "I" (.int 1)) (A_ix_0 : own_Arf Z h0 ix .int (16 : Int32) (fun i => .int (fi i))) (A_wd_0 : own_Arf Z h0 wd .long (16 : Int32) (fun i => .long (fw i))) (A_hd_0 : own_Arf Z h0 hd .boolean (1 : Int32) (fun i => .int (fh i))) (ge_r0 : n0 ≤ r0) (ge_wd : n0 ≤ wd) (ge_hd : n0 ≤ hd) (ge_il : n0 ≤ il) (ge_ix : n0 ≤ ix) (hfi : fi 0 = 0) :
    MetFree l oM17 (head1 (Jvm.Cond.code oM17 prog_49_method_9_code 3 none :: ws) rm12o_room) (fun a U => a = #[(.ref r0)] ∧ Z.Warmed39 U.vm ∧ U.heap = h0) (fun _ _ _ _ _ => True) (fun _ U o U' => ∃ v L, o = .returned v ∧ Qrm12o Z r0 wd hd il ix fi fw fh h0 n0 v U'.heap L ∧ FrameEnd U o U' L rm12o_room.cells rm12o_room.slots) := by
 refine MetFree.of_bodySF (plainFor_of_name pn_12) hisR ?_
 intro p e s m args below meth c s₁ Bd hml0 hP hK
 obtain ⟨rfl, hZ, hh⟩ := hP
 have hx := Bd.exec
 have hby := Bd.bytes
 have hml : c.maxLocals = 3 := hml0
 have hown : s.vm.findClass oC1 = some m.cls := findClass_of_methodNamed Bd.named
 have hnm := (name_of_methodNamed Bd.named Bd.method).1
 have hlk : meth.locks = false := BodyLoose.notSynchronized Bd
 have X0 : Stand p l e rm12o_room s m #[(.ref r0)] below meth c s₁ [] 0 0 := Stand.of_body Bd
 have e0 : s₁.heap = h0 := by rw [← hh, Bd.state]; rfl
 have N0 := Fr.nil n0
 show own_Fin p.tables e below s (Qrm12o Z r0 wd hd il ix fi fw fh h0 n0) rm12o_room.cells rm12o_room.slots (s₁.setTop (entryFrame m #[(.ref r0)] 3))
 rw [ef_12]
 show oF (s₁.setTop (mkF m 0 #[oR r0, oU, oU] []))
 have K0 := Keep.refl h0 [r0, wd, hd, il]
 refine own_go (fun _ k => XS.iconst X0.here hx rfl (hb hby d12_0) (XS.istoreN X0.here hx rfl (hb hby d12_1) rfl (l' := #[oR r0, oI 0, oU]) rfl (XS.iloadN X0.here hx rfl (hb hby d12_2) rfl (XS.aloadN X0.here hx rfl (hb hby d12_3) rfl rfl k)))) ?_
 obtain ⟨T1, X1, e1, st1⟩ := getF X0 hx hZ hown (host := "") (Or.inl (oW hw 47 rfl)) Via.refl e0 F_blocks_r0_0 (g := (mkF m 4 #[oR r0, oI 0, oU] [(.ref r0), (.int 0)])) rfl rfl (hb hby d12_4)
 refine own_go (fun tg k => st1 tg k) ?_
 obtain ⟨cq2, kq2, q2a, q2b, q2c⟩ := isOf hZ e1 E_il_0
 obtain ⟨_, _, ⟨T2, L2, k2, n2⟩, -, X2, ⟨Lc2, hQ2, l2, y2, z2⟩, st2⟩ := X1.virtualBack hx (y := oM6) (z := oM6) hown (mvT hZ (oW hw 96 rfl)) (mvT hZ (oW hw 97 rfl)) (notFace_of_selects (args := #[]) (mvT hZ (oW hw 99 rfl))) (mvT hZ (oW hw 99 rfl)) (mvT hZ (oW hw 98 rfl)) (by decide) (backOf (W := 1) (rm11 l Z a0 hw [] il (1 : Int32) h0 n0 Z0 F_size_il_0) hZ (oW hw 100 rfl) (oW hw 39 rfl) (by decide) (by decide)) q2a q2c (g := (mkF m 7 #[oR r0, oI 0, oU] [(.ref il), (.int 0)])) rfl (by rw [hml]; rfl) (Steps.refl _) (argsL := []) (rest := [(.int 0)]) (lenOf own_pd194 rfl) rfl (by show 2 * 0 + _ ≤ _; exact Nat.le_of_eq rfl) (hb hby d12_7) (fun _ _ => ⟨rfl, e1, (by decide : 0 + 0 ≤ _), (by decide : 0 + 0 ≤ _)⟩)
 dsimp only [Pt.U, Pt.locs, Pt.cells, Pt.slots] at X2 l2 y2 z2 st2 hQ2
 replace y2 : 0 = k2 := y2.symm
 replace z2 : 0 = n2 := z2.symm
 subst y2 z2
 obtain ⟨rfl, N2q, e2⟩ := hQ2
 have N2 : Fr n0 L2 := by rw [l2]; exact Fr.app N0 N2q
 refine own_go (fun tg k => st2.trans k) ?_
 show oF (T2.setTop (mkF m 10 #[oR r0, oI 0, oU] [(.int 1), (.int 0)]))
 refine own_go (fun _ k => XS.icmpNo X2.here hx rfl (hb hby d12_10) rfl (tlt (by decide)).2.1 (XS.aloadN X2.here hx rfl (hb hby d12_13) rfl rfl k)) ?_
 obtain ⟨T3, X3, e3, st3⟩ := getF X2 hx hZ hown (host := "") (Or.inl (oW hw 47 rfl)) Via.refl e2 F_blocks_r0_0 (g := (mkF m 14 #[oR r0, oI 0, oU] [(.ref r0)])) rfl rfl (hb hby d12_14)
 refine own_go (fun tg k => st3 tg k) ?_
 refine own_go (fun _ k => XS.iloadN X3.here hx rfl (hb hby d12_17) rfl k) ?_
 obtain ⟨cq4, kq4, q4a, q4b, q4c⟩ := isOf hZ e3 E_il_0
 obtain ⟨_, _, ⟨T4, L4, k4, n4⟩, -, X4, ⟨Lc4, hQ4, l4, y4, z4⟩, st4⟩ := X3.virtualBack hx (y := oM7) (z := oM7) hown (mvT hZ (oW hw 150 rfl)) (mvT hZ (oW hw 151 rfl)) (notFace_of_selects (args := #[]) (mvT hZ (oW hw 153 rfl))) (mvT hZ (oW hw 153 rfl)) (mvT hZ (oW hw 152 rfl)) (by decide) (backOf (W := 0) (rm19 l Z a0 hw [] il (0 : Int32) ix fi h0 n0 Z0 F_indices_il_0 A_ix_0 ⟨by decide, by decide⟩) hZ (oW hw 154 rfl) (oW hw 39 rfl) (by decide) (by decide)) q4a q4c (g := (mkF m 18 #[oR r0, oI 0, oU] [(.int 0), (.ref il)])) rfl (by rw [hml]; rfl) (Steps.refl _) (argsL := [(.int 0)]) (rest := []) (lenOf own_pd90 rfl) rfl (by show 2 * 0 + _ ≤ _; exact Nat.le_of_eq rfl) (hb hby d12_18) (fun _ _ => ⟨rfl, e3, (by decide : 0 + 0 ≤ _), (by decide : 0 + 0 ≤ _)⟩)
 dsimp only [Pt.U, Pt.locs, Pt.cells, Pt.slots] at X4 l4 y4 z4 st4 hQ4
 replace y4 : 0 = k4 := y4.symm
 replace z4 : 0 = n4 := z4.symm
 subst y4 z4
 obtain ⟨rfl, N4q, e4⟩ := hQ4
 have N4 : Fr n0 L4 := by rw [l4]; exact Fr.app N2 N4q
 refine own_go (fun tg k => st4.trans k) ?_
 show oF (T4.setTop (mkF m 21 #[oR r0, oI 0, oU] [(.int (fi (0 : Int32).toNatClampNeg))]))
 have hr5 : (fi (0 : Int32).toNatClampNeg) = (0 : Int32) := hfi
 rw [hr5]
 show oF (T4.setTop (mkF m 21 #[oR r0, oI 0, oU] [(.int 0)]))
 refine own_go (fun _ k => XS.istoreN X4.here hx rfl (hb hby d12_21) rfl (l' := #[oR r0, oI 0, oI 0]) rfl (XS.aloadN X4.here hx rfl (hb hby d12_22) rfl rfl k)) ?_
 obtain ⟨T6, X6, e6, st6⟩ := getF X4 hx hZ hown (host := "") (Or.inl (oW hw 52 rfl)) Via.refl e4 F_words_r0_0 (g := (mkF m 23 #[oR r0, oI 0, oI 0] [(.ref r0)])) rfl rfl (hb hby d12_23)
 refine own_go (fun tg k => st6 tg k) ?_
 refine own_go (fun _ k => XS.iloadN X6.here hx rfl (hb hby d12_26) rfl (XS.bipush X6.here hx rfl (hb hby d12_27) (XS.imul X6.here hx rfl (hb hby d12_29) rfl k))) ?_
 show oF (T6.setTop (mkF m 30 #[oR r0, oI 0, oI 0] [(.int 0), (.ref wd)]))
 refine own_go (fun _ k => XS.iloadN X6.here hx rfl (hb hby d12_30) rfl (XS.iconst X6.here hx rfl (hb hby d12_31) (XS.iadd X6.here hx rfl (hb hby d12_32) rfl k))) ?_
 show oF (T6.setTop (mkF m 33 #[oR r0, oI 0, oI 0] [(.int 1), (.int 0), (.ref wd)]))
 refine own_go (fun _ k => XS.bipush X6.here hx rfl (hb hby d12_33) (XS.imul X6.here hx rfl (hb hby d12_35) rfl k)) ?_
 show oF (T6.setTop (mkF m 36 #[oR r0, oI 0, oI 0] [(.int 16), (.int 0), (.ref wd)]))
 refine own_go (fun _ k => XS.lconst X6.here hx rfl (hb hby d12_36) k) ?_
 obtain ⟨_, _, ⟨T7, L7, k7, n7⟩, -, X7, ⟨Lc7, hQ7, l7, y7, z7⟩, st7⟩ := Jvm.LawKit.callS X6 hx (y := oM16) hown (mvT hZ (oW hw 206 rfl)) (mvT hZ (oW hw 207 rfl)) (mvT hZ (oW hw 201 rfl)) (mvT hZ (oW hw 208 rfl)) (by decide) (backOf (W := 0) (rm32 l Z a0 hw [] wd (16 : Int32) (0 : Int64) fw h0 n0 Z0 A_wd_0 ge_wd) hZ (oW hw 208 rfl) (oW hw 201 rfl) (by decide) (by decide)) (g := (mkF m 37 #[oR r0, oI 0, oI 0] [(.long (0 : Int64)), (.int 16), (.int 0), (.ref wd)])) rfl (by rw [hml]; rfl) (argsL := [(.ref wd), (.int 0), (.int 16), (.long (0 : Int64))]) (rest := []) (lenOf own_pd283 rfl) rfl (by show 2 * 0 + _ ≤ _; exact Nat.le_of_eq rfl) (hb hby d12_37) (fun _ _ => ⟨rfl, e6, (by decide : 0 + 0 ≤ _), (by decide : 0 + 0 ≤ _)⟩)
 dsimp only [Pt.U, Pt.locs, Pt.cells, Pt.slots] at X7 l7 y7 z7 st7 hQ7
 replace y7 : 0 = k7 := y7.symm
 replace z7 : 0 = n7 := z7.symm
 subst y7 z7
 obtain ⟨rfl, N7q, Kq7, A_wd_7⟩ := hQ7
 have N7 : Fr n0 L7 := by rw [l7]; exact Fr.app N4 N7q
 have E_r0_7 := E_r0_0.keep Kq7
 have u7_r0 := (ninS (own_ne_arf E_r0_0 (oW hw 27 rfl) A_wd_0) nin0)
 have F_words_r0_7 := F_words_r0_0.keep Kq7 u7_r0
 have F_held_r0_7 := F_held_r0_0.keep Kq7 u7_r0
 have F_blocks_r0_7 := F_blocks_r0_0.keep Kq7 u7_r0
 have F_sorted_r0_7 := F_sorted_r0_0.keep Kq7 u7_r0
 have E_il_7 := E_il_0.keep Kq7
 have u7_il := (ninS (own_ne_arf E_il_0 (oW hw 38 rfl) A_wd_0) nin0)
 have F_indices_il_7 := F_indices_il_0.keep Kq7 u7_il
 have F_size_il_7 := F_size_il_0.keep Kq7 u7_il
 have A_ix_7 := A_ix_0.keep Kq7 (ninS (own_ne_ty A_ix_0 A_wd_0 (by decide)) nin0)
 have A_hd_7 := A_hd_0.keep Kq7 (ninS (own_ne_ty A_hd_0 A_wd_0 (by decide)) nin0)
 have K7 := Keep.trans K0 Kq7 (allS (Or.inl (List.mem_of_getElem? (i := 1) rfl)) all0)
 have Z7 : n0 ≤ T7.heap.size := Nat.le_trans Z0 Kq7.1
 refine own_go (fun tg k => st7 tg k) ?_
 show oF (T7.setTop (mkF m 40 #[oR r0, oI 0, oI 0] []))
 refine own_go (fun _ k => XS.aloadN X7.here hx rfl (hb hby d12_40) rfl rfl k) ?_
 obtain ⟨T8, X8, e8, st8⟩ := getF X7 hx hZ hown (host := "") (Or.inl (oW hw 55 rfl)) Via.refl rfl F_held_r0_7 (g := (mkF m 41 #[oR r0, oI 0, oI 0] [(.ref r0)])) rfl rfl (hb hby d12_41)
 refine own_go (fun tg k => st8 tg k) ?_
 refine own_go (fun _ k => XS.iloadN X8.here hx rfl (hb hby d12_44) rfl (XS.iconst X8.here hx rfl (hb hby d12_45) k)) ?_
 obtain ⟨T9, h9, X9, e9, W9, A_hd_9, st9⟩ := own_stZ X8 hx hZ e8 A_hd_7 (j := (0 : Int32)) ⟨by decide, by decide⟩ (g := (mkF m 46 #[oR r0, oI 0, oI 0] [(.int 0), (.int 0), (.ref hd)])) rfl rfl (hb hby d12_46)
 have E_r0_9 := E_r0_7.wr W9
 have u9_r0 := (own_ne_arf E_r0_7 (oW hw 27 rfl) A_hd_7)
 have F_words_r0_9 := F_words_r0_7.other W9 (Or.inl u9_r0)
 have F_held_r0_9 := F_held_r0_7.other W9 (Or.inl u9_r0)
 have F_blocks_r0_9 := F_blocks_r0_7.other W9 (Or.inl u9_r0)
 have F_sorted_r0_9 := F_sorted_r0_7.other W9 (Or.inl u9_r0)
 have E_il_9 := E_il_7.wr W9
 have u9_il := (own_ne_arf E_il_7 (oW hw 38 rfl) A_hd_7)
 have F_indices_il_9 := F_indices_il_7.other W9 (Or.inl u9_il)
 have F_size_il_9 := F_size_il_7.other W9 (Or.inl u9_il)
 have A_ix_9 := A_ix_7.other W9 (own_ne_ty A_ix_7 A_hd_7 (by decide))
 have A_wd_9 := A_wd_7.other W9 (own_ne_ty A_wd_7 A_hd_7 (by decide))
 have K9 := K7.wr W9 (Or.inl (List.mem_of_getElem? (i := 2) rfl))
 have N9 := Fr.snoc X9 N7 ge_hd
 have Z9 : n0 ≤ h9.size := Nat.le_trans Z7 (Keep.of_wr W9).1
 refine own_go (fun tg k => st9 tg k) ?_
 refine own_go (fun _ k => XS.iinc X9.here hx rfl (hb hby d12_47) rfl (l' := #[oR r0, oI 1, oI 0]) rfl k) ?_
 show oF (T9.setTop (mkF m 50 #[oR r0, oI 1, oI 0] []))
 refine own_go (fun _ k => XS.goto X9.here hx rfl (pc0 := 50) (pc' := 2) rfl (hb hby d12_50) (by decide) (by decide) (XS.iloadN X9.here hx rfl (hb hby d12_2) rfl (XS.aloadN X9.here hx rfl (hb hby d12_3) rfl rfl k))) ?_
 obtain ⟨T10, X10, e10, st10⟩ := getF X9 hx hZ hown (host := "") (Or.inl (oW hw 47 rfl)) Via.refl e9 F_blocks_r0_9 (g := (mkF m 4 #[oR r0, oI 1, oI 0] [(.ref r0), (.int 1)])) rfl rfl (hb hby d12_4)
 refine own_go (fun tg k => st10 tg k) ?_
 obtain ⟨cq11, kq11, q11a, q11b, q11c⟩ := isOf hZ e10 E_il_9
 obtain ⟨_, _, ⟨T11, L11, k11, n11⟩, -, X11, ⟨Lc11, hQ11, l11, y11, z11⟩, st11⟩ := X10.virtualBack hx (y := oM6) (z := oM6) hown (mvT hZ (oW hw 96 rfl)) (mvT hZ (oW hw 97 rfl)) (notFace_of_selects (args := #[]) (mvT hZ (oW hw 99 rfl))) (mvT hZ (oW hw 99 rfl)) (mvT hZ (oW hw 98 rfl)) (by decide) (backOf (W := 1) (rm11 l Z a0 hw [] il (1 : Int32) h9 n0 Z9 F_size_il_9) hZ (oW hw 100 rfl) (oW hw 39 rfl) (by decide) (by decide)) q11a q11c (g := (mkF m 7 #[oR r0, oI 1, oI 0] [(.ref il), (.int 1)])) rfl (by rw [hml]; rfl) (Steps.refl _) (argsL := []) (rest := [(.int 1)]) (lenOf own_pd194 rfl) rfl (by show 2 * 0 + _ ≤ _; exact Nat.le_of_eq rfl) (hb hby d12_7) (fun _ _ => ⟨rfl, e10, (by decide : 0 + 0 ≤ _), (by decide : 0 + 0 ≤ _)⟩)
 dsimp only [Pt.U, Pt.locs, Pt.cells, Pt.slots] at X11 l11 y11 z11 st11 hQ11
 replace y11 : 0 = k11 := y11.symm
 replace z11 : 0 = n11 := z11.symm
 subst y11 z11
 obtain ⟨rfl, N11q, e11⟩ := hQ11
 have N11 : Fr n0 L11 := by rw [l11]; exact Fr.app N9 N11q
 refine own_go (fun tg k => st11.trans k) ?_
 show oF (T11.setTop (mkF m 10 #[oR r0, oI 1, oI 0] [(.int 1), (.int 1)]))
 refine own_go (fun _ k => XS.icmpYes X11.here hx rfl (pc0 := 10) (pc' := 53) rfl (hb hby d12_10) rfl (flt (by decide)).2.1 (by decide) (by decide) k) ?_
 show oF (T11.setTop (mkF m 53 #[oR r0, oI 1, oI 0] []))
 refine own_go (fun _ k => XS.aloadN X11.here hx rfl (hb hby d12_53) rfl rfl k) ?_
 obtain ⟨T12, X12, e12, st12⟩ := getF X11 hx hZ hown (host := "") (Or.inl (oW hw 47 rfl)) Via.refl e11 F_blocks_r0_9 (g := (mkF m 54 #[oR r0, oI 1, oI 0] [(.ref r0)])) rfl rfl (hb hby d12_54)
 refine own_go (fun tg k => st12 tg k) ?_
 obtain ⟨cq13, kq13, q13a, q13b, q13c⟩ := isOf hZ e12 E_il_9
 obtain ⟨_, _, ⟨T13, L13, k13, n13⟩, -, X13, ⟨Lc13, hQ13, l13, y13, z13⟩, st13⟩ := X12.virtualBack hx (y := oM8) (z := oM8) hown (mvT hZ (oW hw 108 rfl)) (mvT hZ (oW hw 109 rfl)) (notFace_of_selects (args := #[]) (mvT hZ (oW hw 111 rfl))) (mvT hZ (oW hw 111 rfl)) (mvT hZ (oW hw 110 rfl)) (by decide) (backOf (W := 0) (rm13 l Z a0 hw [] il (1 : Int32) ix h9 n0 Z9 E_il_9 F_size_il_9 F_indices_il_9 ge_il) hZ (oW hw 112 rfl) (oW hw 39 rfl) (by decide) (by decide)) q13a q13c (g := (mkF m 57 #[oR r0, oI 1, oI 0] [(.ref il)])) rfl (by rw [hml]; rfl) (Steps.refl _) (argsL := []) (rest := []) (lenOf own_pd158 rfl) rfl (by show 2 * 0 + _ ≤ _; exact Nat.le_of_eq rfl) (hb hby d12_57) (fun _ _ => ⟨rfl, e12, (by decide : 0 + 0 ≤ _), (by decide : 0 + 0 ≤ _)⟩)
 dsimp only [Pt.U, Pt.locs, Pt.cells, Pt.slots] at X13 l13 y13 z13 st13 hQ13
 replace y13 : 0 = k13 := y13.symm
 replace z13 : 0 = n13 := z13.symm
 subst y13 z13
 obtain ⟨rfl, N13q, Kq13, E_il_13, F_size_il_13, F_indices_il_13⟩ := hQ13
 have N13 : Fr n0 L13 := by rw [l13]; exact Fr.app N11 N13q
 have E_r0_13 := E_r0_9.keep Kq13
 have u13_r0 := (ninS (ne_exa E_r0_9 E_il_9 (by decide)) nin0)
 have F_words_r0_13 := F_words_r0_9.keep Kq13 u13_r0
 have F_held_r0_13 := F_held_r0_9.keep Kq13 u13_r0
 have F_blocks_r0_13 := F_blocks_r0_9.keep Kq13 u13_r0
 have F_sorted_r0_13 := F_sorted_r0_9.keep Kq13 u13_r0
 have A_ix_13 := A_ix_9.keep Kq13 (ninS (Ne.symm (own_ne_arf E_il_9 (oW hw 38 rfl) A_ix_9)) nin0)
 have A_wd_13 := A_wd_9.keep Kq13 (ninS (Ne.symm (own_ne_arf E_il_9 (oW hw 38 rfl) A_wd_9)) nin0)
 have A_hd_13 := A_hd_9.keep Kq13 (ninS (Ne.symm (own_ne_arf E_il_9 (oW hw 38 rfl) A_hd_9)) nin0)
 have K13 := Keep.trans K9 Kq13 (allS (Or.inl (List.mem_of_getElem? (i := 3) rfl)) all0)
 have Z13 : n0 ≤ T13.heap.size := Nat.le_trans Z9 Kq13.1
 refine own_go (fun tg k => st13.trans k) ?_
 show oF (T13.setTop (mkF m 60 #[oR r0, oI 1, oI 0] []))
 refine own_go (fun _ k => XS.aloadN X13.here hx rfl (hb hby d12_60) rfl rfl (XS.iconst X13.here hx rfl (hb hby d12_61) k)) ?_
 obtain ⟨T14, h14, X14, e14, W14, st14⟩ := putFN X13 hx hZ hown (oW hw 49 rfl) Via.refl rfl F_sorted_r0_13 E_r0_13 (Or.inl (oW hw 50 rfl)) (oW hw 27 rfl) (ty := .boolean) (v' := (.int 1)) (by decide) rfl (by decide) (g := (mkF m 62 #[oR r0, oI 1, oI 0] [(.int 1), (.ref r0)])) rfl rfl (hb hby d12_62)
 have E_r0_14 := E_r0_13.wr W14
 have F_words_r0_14 := F_words_r0_13.other W14 (Or.inr (own_sn162 hw))
 have F_held_r0_14 := F_held_r0_13.other W14 (Or.inr (own_sn163 hw))
 have F_blocks_r0_14 := F_blocks_r0_13.other W14 (Or.inr (own_sn164 hw))
 have E_il_14 := E_il_13.wr W14
 have u14_il := (ne_exa E_il_13 E_r0_13 (by decide))
 have F_indices_il_14 := F_indices_il_13.other W14 (Or.inl u14_il)
 have F_size_il_14 := F_size_il_13.other W14 (Or.inl u14_il)
 have A_ix_14 := A_ix_13.other W14 (Ne.symm (own_ne_arf E_r0_13 (oW hw 27 rfl) A_ix_13))
 have A_wd_14 := A_wd_13.other W14 (Ne.symm (own_ne_arf E_r0_13 (oW hw 27 rfl) A_wd_13))
 have A_hd_14 := A_hd_13.other W14 (Ne.symm (own_ne_arf E_r0_13 (oW hw 27 rfl) A_hd_13))
 have K14 := K13.wr W14 (Or.inl (List.mem_of_getElem? (i := 0) rfl))
 have N14 := Fr.snoc X14 N13 ge_r0
 have Z14 : n0 ≤ h14.size := Nat.le_trans Z13 (Keep.of_wr W14).1
 have F_sorted_r0_14 := F_sorted_r0_13.same W14
 refine own_go (fun tg k => st14 tg k) ?_
 refine own_retV X14 hx hlk Bd.returns (hb hby d12_65) (Nat.le_of_ble_eq_true rfl) (Nat.le_of_ble_eq_true rfl) ?_
 rw [e14]
 refine ⟨rfl, N14, K14, E_r0_14, ?_, ?_, ?_, ?_, E_il_14, ?_, ?_, ?_, ?_⟩
 · (exact F_words_r0_14)
 · (exact F_held_r0_14)
 · (exact F_blocks_r0_14)
 · (exact F_sorted_r0_14)
 · (exact F_indices_il_14)
 · (exact F_size_il_14)
 · ( exact own_Arf.fn A_wd_14 (fun j hj => congrArg Value.long (own_w00 j)))
 · ( exact own_Arf.fn A_hd_14 (own_h0 _))
theorem own_pd308 : parseMethodDescriptor "(I)V" = some ⟨[.int], none⟩ := by decide +kernel
theorem d15_0 : oQ oD18 0 (.aload_n 0) 1 := by decide +kernel
theorem d15_1 : oQ oD18 1 (.getfield 28) 3 := by decide +kernel
theorem d15_4 : oQ oD18 4 (.iload_n 1) 1 := by decide +kernel
theorem d15_5 : oQ oD18 5 .baload 1 := by decide +kernel
theorem d15_6 : oQ oD18 6 (.ifCond .ne 62) 3 := by decide +kernel
theorem d15_9 : oQ oD18 9 (.aload_n 0) 1 := by decide +kernel
theorem d15_10 : oQ oD18 10 (.getfield 28) 3 := by decide +kernel
theorem d15_13 : oQ oD18 13 (.iload_n 1) 1 := by decide +kernel
theorem d15_14 : oQ oD18 14 (.iconst 1) 1 := by decide +kernel
theorem d15_15 : oQ oD18 15 .bastore 1 := by decide +kernel
theorem d15_16 : oQ oD18 16 (.aload_n 0) 1 := by decide +kernel
theorem d15_17 : oQ oD18 17 .dup 1 := by decide +kernel
theorem d15_18 : oQ oD18 18 (.getfield 20) 3 := by decide +kernel
theorem d15_21 : oQ oD18 21 (.aload_n 0) 1 := by decide +kernel
theorem d15_22 : oQ oD18 22 (.getfield 14) 3 := by decide +kernel
theorem d15_25 : oQ oD18 25 (.invokevirtual 36) 3 := by decide +kernel
theorem d15_28 : oQ oD18 28 (.ifCond .eq 23) 3 := by decide +kernel
theorem d15_51 : oQ oD18 51 (.iconst 1) 1 := by decide +kernel
theorem d15_52 : oQ oD18 52 (.goto 4) 3 := by decide +kernel
theorem d15_56 : oQ oD18 56 .iand 1 := by decide +kernel
theorem d15_57 : oQ oD18 57 (.putfield 20) 3 := by decide +kernel
theorem d15_60 : oQ oD18 60 (.aload_n 0) 1 := by decide +kernel
theorem d15_61 : oQ oD18 61 (.getfield 14) 3 := by decide +kernel
theorem d15_64 : oQ oD18 64 (.iload_n 1) 1 := by decide +kernel
theorem d15_65 : oQ oD18 65 (.invokevirtual 44) 3 := by decide +kernel
theorem d15_68 : oQ oD18 68 .return_ 1 := by decide +kernel
theorem pn_15 : plainName oC1 = true := by first | (simp [plainName, overriddenIn]; done) | decide +kernel
theorem ef_15_0Int32 (m : MethodId) (r0 : Addr) : entryFrame m #[(.ref r0), (.int 0)] 2 = mkF m 0 #[oR r0, oI 0] [] := by first | (simp [entryFrame, mkF, argsToLocals, Value.category]; done) | rfl
def rm15z_room : Room := { frames := 1, cells := 0, slots := 0, locals := 14 }
def Qrm15z (Z : State) (r0 : Addr) (wd : Addr) (hd : Addr) (il : Addr) (ix : Addr) (fi : Nat → Int32) (h0 : Heap) (n0 : Nat) (v : Option Value) (h : Heap) (L : List Loc) : Prop := v = none ∧ Fr n0 L ∧ Keep h0 h [r0, hd, il, ix] ∧ Exa Z h r0 oC1 ∧ Fld Z h r0 oC1 "words" "[J" (.ref wd) ∧ Fld Z h r0 oC1 "held" "[Z" (.ref hd) ∧ Fld Z h r0 oC1 "blocks" oC5 (.ref il) ∧ Fld Z h r0 oC1 "sorted" "Z" (.int 1) ∧ Exa Z h il oC3 ∧ Fld Z h il oC3 "indices" "[I" (.ref ix) ∧ Fld Z h il oC3 "size" "I" (.int 1) ∧ own_Arf Z h ix .int (16 : Int32) (fun i => .int ((own_set fi (0 : Int32) (0 : Int32)) i)) ∧ own_Arf Z h hd .boolean (1 : Int32) (fun i => .int ((fun _ => (1 : Int32)) i))
set_option maxRecDepth 65536 in
set_option maxHeartbeats 40000000 in
theorem rm15z (l : Launch) (Z : State) (a0 : Array Value) (hw : oH Z a0) (ws : List Jvm.Cond) (r0 : Addr) (wd : Addr) (hd : Addr) (il : Addr) (ix : Addr) (fi : Nat → Int32) (h0 : Heap) (n0 : Nat) (Z0 : n0 ≤ h0.size) (E_r0_0 : Exa Z h0 r0 oC1) (F_words_r0_0 : Fld Z h0 r0 oC1 "words" "[J" (.ref wd)) (F_held_r0_0 : Fld Z h0 r0 oC1 "held" "[Z" (.ref hd)) (F_blocks_r0_0 : Fld Z h0 r0 oC1 "blocks" oC5 (.ref il)) (F_sorted_r0_0 : Fld Z h0 r0 oC1 "sorted" "Z" (.int 1)) (E_il_0 : Exa Z h0 il oC3) (F_indices_il_0 : Fld Z h0 il oC3 "indices" "[I" (.ref ix)) (F_size_il_0 : Fld Z h0 il oC3 "size" "I" (.int 0)) (A_ix_0 : own_Arf Z h0 ix .int (16 : Int32) (fun i => .int (fi i))) (A_hd_0 : own_Arf Z h0 hd .boolean (1 : Int32) (fun i => .int ((fun _ => (0 : Int32)) i))) (ge_r0 : n0 ≤ r0) (ge_wd : n0 ≤ wd) (ge_hd : n0 ≤ hd) (ge_il : n0 ≤ il) (ge_ix : n0 ≤ ix) :
    MetFree l oM18 (head1 (Jvm.Cond.code oM18 prog_49_method_4_code 2 none :: ws) rm15z_room) (fun a U => a = #[(.ref r0), (.int 0)] ∧ Z.Warmed39 U.vm ∧ U.heap = h0) (fun _ _ _ _ _ => True) (fun _ U o U' => ∃ v L, o = .returned v ∧ Qrm15z Z r0 wd hd il ix fi h0 n0 v U'.heap L ∧ FrameEnd U o U' L rm15z_room.cells rm15z_room.slots) := by
 refine MetFree.of_bodySF (plainFor_of_name pn_15) hisR ?_
 intro p e s m args below meth c s₁ Bd hml0 hP hK
 obtain ⟨rfl, hZ, hh⟩ := hP
 have hx := Bd.exec
 have hby := Bd.bytes
 have hml : c.maxLocals = 2 := hml0
 have hown : s.vm.findClass oC1 = some m.cls := findClass_of_methodNamed Bd.named
 have hnm := (name_of_methodNamed Bd.named Bd.method).1
 have hlk : meth.locks = false := BodyLoose.notSynchronized Bd
 have X0 : Stand p l e rm15z_room s m #[(.ref r0), (.int 0)] below meth c s₁ [] 0 0 := Stand.of_body Bd
 have e0 : s₁.heap = h0 := by rw [← hh, Bd.state]; rfl
 have N0 := Fr.nil n0
 show own_Fin p.tables e below s (Qrm15z Z r0 wd hd il ix fi h0 n0) rm15z_room.cells rm15z_room.slots (s₁.setTop (entryFrame m #[(.ref r0), (.int 0)] 2))
 rw [ef_15_0Int32]
 show oF (s₁.setTop (mkF m 0 #[oR r0, oI 0] []))
 have K0 := Keep.refl h0 [r0, hd, il, ix]
 refine own_go (fun _ k => XS.aloadN X0.here hx rfl (hb hby d15_0) rfl rfl k) ?_
 obtain ⟨T1, X1, e1, st1⟩ := getF X0 hx hZ hown (host := "") (Or.inl (oW hw 55 rfl)) Via.refl e0 F_held_r0_0 (g := (mkF m 1 #[oR r0, oI 0] [(.ref r0)])) rfl rfl (hb hby d15_1)
 refine own_go (fun tg k => st1 tg k) ?_
 refine own_go (fun _ k => XS.iloadN X1.here hx rfl (hb hby d15_4) rfl k) ?_
 refine own_go (fun tg k => own_zaload X1 hx hZ e1 A_hd_0 (j := (0 : Int32)) ⟨by decide, by decide⟩ (x := (0 : Int32)) rfl (g := (mkF m 5 #[oR r0, oI 0] [(.int 0), (.ref hd)])) rfl rfl (hb hby d15_5) tg k) ?_
 refine own_go (fun _ k => XS.ifNo X1.here hx rfl (hb hby d15_6) rfl ((if0 _ _).trans (teq (by decide)).2) (XS.aloadN X1.here hx rfl (hb hby d15_9) rfl rfl k)) ?_
 obtain ⟨T2, X2, e2, st2⟩ := getF X1 hx hZ hown (host := "") (Or.inl (oW hw 55 rfl)) Via.refl e1 F_held_r0_0 (g := (mkF m 10 #[oR r0, oI 0] [(.ref r0)])) rfl rfl (hb hby d15_10)
 refine own_go (fun tg k => st2 tg k) ?_
 refine own_go (fun _ k => XS.iloadN X2.here hx rfl (hb hby d15_13) rfl (XS.iconst X2.here hx rfl (hb hby d15_14) k)) ?_
 obtain ⟨T3, h3, X3, e3, W3, A_hd_3, st3⟩ := own_stZ X2 hx hZ e2 A_hd_0 (j := (0 : Int32)) ⟨by decide, by decide⟩ (g := (mkF m 15 #[oR r0, oI 0] [(.int 1), (.int 0), (.ref hd)])) rfl rfl (hb hby d15_15)
 have E_r0_3 := E_r0_0.wr W3
 have u3_r0 := (own_ne_arf E_r0_0 (oW hw 27 rfl) A_hd_0)
 have F_words_r0_3 := F_words_r0_0.other W3 (Or.inl u3_r0)
 have F_held_r0_3 := F_held_r0_0.other W3 (Or.inl u3_r0)
 have F_blocks_r0_3 := F_blocks_r0_0.other W3 (Or.inl u3_r0)
 have F_sorted_r0_3 := F_sorted_r0_0.other W3 (Or.inl u3_r0)
 have E_il_3 := E_il_0.wr W3
 have u3_il := (own_ne_arf E_il_0 (oW hw 38 rfl) A_hd_0)
 have F_indices_il_3 := F_indices_il_0.other W3 (Or.inl u3_il)
 have F_size_il_3 := F_size_il_0.other W3 (Or.inl u3_il)
 have A_ix_3 := A_ix_0.other W3 (own_ne_ty A_ix_0 A_hd_0 (by decide))
 have K3 := K0.wr W3 (Or.inl (List.mem_of_getElem? (i := 1) rfl))
 have N3 := Fr.snoc X3 N0 ge_hd
 have Z3 : n0 ≤ h3.size := Nat.le_trans Z0 (Keep.of_wr W3).1
 refine own_go (fun tg k => st3 tg k) ?_
 refine own_go (fun _ k => XS.aloadN X3.here hx rfl (hb hby d15_16) rfl rfl (XS.dup X3.here hx rfl (hb hby d15_17) rfl rfl k)) ?_
 obtain ⟨T4, X4, e4, st4⟩ := getF X3 hx hZ hown (host := "") (Or.inl (oW hw 49 rfl)) Via.refl e3 F_sorted_r0_3 (g := (mkF m 18 #[oR r0, oI 0] [(.ref r0), (.ref r0)])) rfl rfl (hb hby d15_18)
 refine own_go (fun tg k => st4 tg k) ?_
 refine own_go (fun _ k => XS.aloadN X4.here hx rfl (hb hby d15_21) rfl rfl k) ?_
 obtain ⟨T5, X5, e5, st5⟩ := getF X4 hx hZ hown (host := "") (Or.inl (oW hw 47 rfl)) Via.refl e4 F_blocks_r0_3 (g := (mkF m 22 #[oR r0, oI 0] [(.ref r0), (.int 1), (.ref r0)])) rfl rfl (hb hby d15_22)
 refine own_go (fun tg k => st5 tg k) ?_
 obtain ⟨cq6, kq6, q6a, q6b, q6c⟩ := isOf hZ e5 E_il_3
 obtain ⟨_, _, ⟨T6, L6, k6, n6⟩, -, X6, ⟨Lc6, hQ6, l6, y6, z6⟩, st6⟩ := X5.virtualBack hx (y := oM6) (z := oM6) hown (mvT hZ (oW hw 96 rfl)) (mvT hZ (oW hw 97 rfl)) (notFace_of_selects (args := #[]) (mvT hZ (oW hw 99 rfl))) (mvT hZ (oW hw 99 rfl)) (mvT hZ (oW hw 98 rfl)) (by decide) (backOf (W := 2) (rm11 l Z a0 hw [] il (0 : Int32) h3 n0 Z3 F_size_il_3) hZ (oW hw 100 rfl) (oW hw 39 rfl) (by decide) (by decide)) q6a q6c (g := (mkF m 25 #[oR r0, oI 0] [(.ref il), (.int 1), (.ref r0)])) rfl (by rw [hml]; rfl) (Steps.refl _) (argsL := []) (rest := [(.int 1), (.ref r0)]) (lenOf own_pd194 rfl) rfl (by show 2 * 0 + _ ≤ _; exact Nat.le_of_eq rfl) (hb hby d15_25) (fun _ _ => ⟨rfl, e5, (by decide : 0 + 0 ≤ _), (by decide : 0 + 0 ≤ _)⟩)
 dsimp only [Pt.U, Pt.locs, Pt.cells, Pt.slots] at X6 l6 y6 z6 st6 hQ6
 replace y6 : 0 = k6 := y6.symm
 replace z6 : 0 = n6 := z6.symm
 subst y6 z6
 obtain ⟨rfl, N6q, e6⟩ := hQ6
 have N6 : Fr n0 L6 := by rw [l6]; exact Fr.app N3 N6q
 refine own_go (fun tg k => st6.trans k) ?_
 show oF (T6.setTop (mkF m 28 #[oR r0, oI 0] [(.int 0), (.int 1), (.ref r0)]))
 refine own_go (fun _ k => XS.ifYes X6.here hx rfl (pc0 := 28) (pc' := 51) rfl (hb hby d15_28) rfl ((if0 _ _).trans (teq (by decide)).1) (by decide) (by decide) (XS.iconst X6.here hx rfl (hb hby d15_51) (XS.goto X6.here hx rfl (pc0 := 52) (pc' := 56) rfl (hb hby d15_52) (by decide) (by decide) (XS.iand X6.here hx rfl (hb hby d15_56) rfl k)))) ?_
 show oF (T6.setTop (mkF m 57 #[oR r0, oI 0] [(.int 1), (.ref r0)]))
 obtain ⟨T7, h7, X7, e7, W7, st7⟩ := putFN X6 hx hZ hown (oW hw 49 rfl) Via.refl e6 F_sorted_r0_3 E_r0_3 (Or.inl (oW hw 50 rfl)) (oW hw 27 rfl) (ty := .boolean) (v' := (.int 1)) (by decide) rfl (by decide) (g := (mkF m 57 #[oR r0, oI 0] [(.int 1), (.ref r0)])) rfl rfl (hb hby d15_57)
 have E_r0_7 := E_r0_3.wr W7
 have F_words_r0_7 := F_words_r0_3.other W7 (Or.inr (own_sn162 hw))
 have F_held_r0_7 := F_held_r0_3.other W7 (Or.inr (own_sn163 hw))
 have F_blocks_r0_7 := F_blocks_r0_3.other W7 (Or.inr (own_sn164 hw))
 have E_il_7 := E_il_3.wr W7
 have u7_il := (ne_exa E_il_3 E_r0_3 (by decide))
 have F_indices_il_7 := F_indices_il_3.other W7 (Or.inl u7_il)
 have F_size_il_7 := F_size_il_3.other W7 (Or.inl u7_il)
 have A_ix_7 := A_ix_3.other W7 (Ne.symm (own_ne_arf E_r0_3 (oW hw 27 rfl) A_ix_3))
 have A_hd_7 := A_hd_3.other W7 (Ne.symm (own_ne_arf E_r0_3 (oW hw 27 rfl) A_hd_3))
 have K7 := K3.wr W7 (Or.inl (List.mem_of_getElem? (i := 0) rfl))
 have N7 := Fr.snoc X7 N6 ge_r0
 have Z7 : n0 ≤ h7.size := Nat.le_trans Z3 (Keep.of_wr W7).1
 have F_sorted_r0_7 := F_sorted_r0_3.same W7
 refine own_go (fun tg k => st7 tg k) ?_
 refine own_go (fun _ k => XS.aloadN X7.here hx rfl (hb hby d15_60) rfl rfl k) ?_
 obtain ⟨T8, X8, e8, st8⟩ := getF X7 hx hZ hown (host := "") (Or.inl (oW hw 47 rfl)) Via.refl e7 F_blocks_r0_7 (g := (mkF m 61 #[oR r0, oI 0] [(.ref r0)])) rfl rfl (hb hby d15_61)
 refine own_go (fun tg k => st8 tg k) ?_
 refine own_go (fun _ k => XS.iloadN X8.here hx rfl (hb hby d15_64) rfl k) ?_
 obtain ⟨cq9, kq9, q9a, q9b, q9c⟩ := isOf hZ e8 E_il_7
 obtain ⟨_, _, ⟨T9, L9, k9, n9⟩, -, X9, ⟨Lc9, hQ9, l9, y9, z9⟩, st9⟩ := X8.virtualBack hx (y := oM9) (z := oM9) hown (mvT hZ (oW hw 135 rfl)) (mvT hZ (oW hw 136 rfl)) (notFace_of_selects (args := #[]) (mvT hZ (oW hw 138 rfl))) (mvT hZ (oW hw 138 rfl)) (mvT hZ (oW hw 137 rfl)) (by decide) (backOf (W := 0) (rm16 l Z a0 hw [] il (0 : Int32) (0 : Int32) ix fi h7 n0 Z7 E_il_7 F_size_il_7 F_indices_il_7 A_ix_7 ge_il ge_ix ⟨by decide, by decide⟩) hZ (oW hw 139 rfl) (oW hw 39 rfl) (by decide) (by decide)) q9a q9c (g := (mkF m 65 #[oR r0, oI 0] [(.int 0), (.ref il)])) rfl (by rw [hml]; rfl) (Steps.refl _) (argsL := [(.int 0)]) (rest := []) (lenOf own_pd308 rfl) rfl (by show 2 * 0 + _ ≤ _; exact Nat.le_of_eq rfl) (hb hby d15_65) (fun _ _ => ⟨rfl, e8, (by decide : 0 + 0 ≤ _), (by decide : 0 + 0 ≤ _)⟩)
 dsimp only [Pt.U, Pt.locs, Pt.cells, Pt.slots] at X9 l9 y9 z9 st9 hQ9
 replace y9 : 0 = k9 := y9.symm
 replace z9 : 0 = n9 := z9.symm
 subst y9 z9
 obtain ⟨rfl, N9q, Kq9, E_il_9, F_size_il_9, F_indices_il_9, A_ix_9⟩ := hQ9
 have N9 : Fr n0 L9 := by rw [l9]; exact Fr.app N7 N9q
 have E_r0_9 := E_r0_7.keep Kq9
 have u9_r0 := (ninS (ne_exa E_r0_7 E_il_7 (by decide)) (ninS (own_ne_arf E_r0_7 (oW hw 27 rfl) A_ix_7) nin0))
 have F_words_r0_9 := F_words_r0_7.keep Kq9 u9_r0
 have F_held_r0_9 := F_held_r0_7.keep Kq9 u9_r0
 have F_blocks_r0_9 := F_blocks_r0_7.keep Kq9 u9_r0
 have F_sorted_r0_9 := F_sorted_r0_7.keep Kq9 u9_r0
 have A_hd_9 := A_hd_7.keep Kq9 (ninS (Ne.symm (own_ne_arf E_il_7 (oW hw 38 rfl) A_hd_7)) (ninS (own_ne_ty A_hd_7 A_ix_7 (by decide)) nin0))
 have K9 := Keep.trans K7 Kq9 (allS (Or.inl (List.mem_of_getElem? (i := 2) rfl)) (allS (Or.inl (List.mem_of_getElem? (i := 3) rfl)) all0))
 have Z9 : n0 ≤ T9.heap.size := Nat.le_trans Z7 Kq9.1
 refine own_go (fun tg k => st9.trans k) ?_
 show oF (T9.setTop (mkF m 68 #[oR r0, oI 0] []))
 refine own_retV X9 hx hlk Bd.returns (hb hby d15_68) (Nat.le_of_ble_eq_true rfl) (Nat.le_of_ble_eq_true rfl) ?_
 refine ⟨rfl, N9, K9, E_r0_9, ?_, ?_, ?_, ?_, E_il_9, ?_, ?_, ?_, ?_⟩
 · (exact F_words_r0_9)
 · (exact F_held_r0_9)
 · (exact F_blocks_r0_9)
 · (exact F_sorted_r0_9)
 · (exact F_indices_il_9)
 · (exact F_size_il_9)
 · (exact A_ix_9)
 · ( exact own_Arf.fn A_hd_9 (own_h1 _))
def rm15o_room : Room := { frames := 0, cells := 0, slots := 0, locals := 0 }
def Qrm15o (Z : State) (r0 : Addr) (hd : Addr) (h0 : Heap) (n0 : Nat) (v : Option Value) (h : Heap) (L : List Loc) : Prop := v = none ∧ Fr n0 L ∧ h = h0
set_option maxRecDepth 65536 in
set_option maxHeartbeats 40000000 in
theorem rm15o (l : Launch) (Z : State) (a0 : Array Value) (hw : oH Z a0) (ws : List Jvm.Cond) (r0 : Addr) (hd : Addr) (h0 : Heap) (n0 : Nat) (Z0 : n0 ≤ h0.size) (E_r0_0 : Exa Z h0 r0 oC1) (F_held_r0_0 : Fld Z h0 r0 oC1 "held" "[Z" (.ref hd)) (A_hd_0 : own_Arf Z h0 hd .boolean (1 : Int32) (fun i => .int ((fun _ => (1 : Int32)) i))) :
    MetFree l oM18 (head1 (Jvm.Cond.code oM18 prog_49_method_4_code 2 none :: ws) rm15o_room) (fun a U => a = #[(.ref r0), (.int 0)] ∧ Z.Warmed39 U.vm ∧ U.heap = h0) (fun _ _ _ _ _ => True) (fun _ U o U' => ∃ v L, o = .returned v ∧ Qrm15o Z r0 hd h0 n0 v U'.heap L ∧ FrameEnd U o U' L rm15o_room.cells rm15o_room.slots) := by
 refine MetFree.of_bodySF (plainFor_of_name pn_15) hisR ?_
 intro p e s m args below meth c s₁ Bd hml0 hP hK
 obtain ⟨rfl, hZ, hh⟩ := hP
 have hx := Bd.exec
 have hby := Bd.bytes
 have hml : c.maxLocals = 2 := hml0
 have hown : s.vm.findClass oC1 = some m.cls := findClass_of_methodNamed Bd.named
 have hnm := (name_of_methodNamed Bd.named Bd.method).1
 have hlk : meth.locks = false := BodyLoose.notSynchronized Bd
 have X0 : Stand p l e rm15o_room s m #[(.ref r0), (.int 0)] below meth c s₁ [] 0 0 := Stand.of_body Bd
 have e0 : s₁.heap = h0 := by rw [← hh, Bd.state]; rfl
 have N0 := Fr.nil n0
 show own_Fin p.tables e below s (Qrm15o Z r0 hd h0 n0) rm15o_room.cells rm15o_room.slots (s₁.setTop (entryFrame m #[(.ref r0), (.int 0)] 2))
 rw [ef_15_0Int32]
 show oF (s₁.setTop (mkF m 0 #[oR r0, oI 0] []))
 refine own_go (fun _ k => XS.aloadN X0.here hx rfl (hb hby d15_0) rfl rfl k) ?_
 obtain ⟨T1, X1, e1, st1⟩ := getF X0 hx hZ hown (host := "") (Or.inl (oW hw 55 rfl)) Via.refl e0 F_held_r0_0 (g := (mkF m 1 #[oR r0, oI 0] [(.ref r0)])) rfl rfl (hb hby d15_1)
 refine own_go (fun tg k => st1 tg k) ?_
 refine own_go (fun _ k => XS.iloadN X1.here hx rfl (hb hby d15_4) rfl k) ?_
 refine own_go (fun tg k => own_zaload X1 hx hZ e1 A_hd_0 (j := (0 : Int32)) ⟨by decide, by decide⟩ (x := (1 : Int32)) rfl (g := (mkF m 5 #[oR r0, oI 0] [(.int 0), (.ref hd)])) rfl rfl (hb hby d15_5) tg k) ?_
 refine own_go (fun _ k => XS.ifYes X1.here hx rfl (pc0 := 6) (pc' := 68) rfl (hb hby d15_6) rfl ((if0 _ _).trans (feq (by decide)).2) (by decide) (by decide) k) ?_
 show oF (T1.setTop (mkF m 68 #[oR r0, oI 0] []))
 refine own_retV X1 hx hlk Bd.returns (hb hby d15_68) (Nat.le_of_ble_eq_true rfl) (Nat.le_of_ble_eq_true rfl) ?_
 refine ⟨rfl, N0, e1⟩
theorem d14_0 : oQ oD19 0 (.aload_n 0) 1 := by decide +kernel
theorem d14_1 : oQ oD19 1 (.getfield 24) 3 := by decide +kernel
theorem d14_4 : oQ oD19 4 (.iload_n 1) 1 := by decide +kernel
theorem d14_5 : oQ oD19 5 (.bipush 64) 2 := by decide +kernel
theorem d14_7 : oQ oD19 7 .idiv 1 := by decide +kernel
theorem d14_8 : oQ oD19 8 .dup2 1 := by decide +kernel
theorem d14_9 : oQ oD19 9 .laload 1 := by decide +kernel
theorem d14_10 : oQ oD19 10 (.lconst 1) 1 := by decide +kernel
theorem d14_11 : oQ oD19 11 (.iload_n 1) 1 := by decide +kernel
theorem d14_12 : oQ oD19 12 .lshl 1 := by decide +kernel
theorem d14_13 : oQ oD19 13 .lor 1 := by decide +kernel
theorem d14_14 : oQ oD19 14 .lastore 1 := by decide +kernel
theorem d14_15 : oQ oD19 15 (.aload_n 0) 1 := by decide +kernel
theorem d14_16 : oQ oD19 16 (.iload_n 1) 1 := by decide +kernel
theorem d14_17 : oQ oD19 17 (.sipush 1024) 3 := by decide +kernel
theorem d14_20 : oQ oD19 20 .idiv 1 := by decide +kernel
theorem d14_21 : oQ oD19 21 (.invokevirtual 32) 3 := by decide +kernel
theorem d14_24 : oQ oD19 24 .return_ 1 := by decide +kernel
theorem pn_14 : plainName oC1 = true := by first | (simp [plainName, overriddenIn]; done) | decide +kernel
theorem ef_14 (m : MethodId) (r0 : Addr) (p1 : Int32) : entryFrame m #[(.ref r0), (.int p1)] 2 = mkF m 0 #[oR r0, oI p1] [] := by first | (simp [entryFrame, mkF, argsToLocals, Value.category]; done) | rfl
def rm14z_room : Room := { frames := 2, cells := 0, slots := 0, locals := 27 }
def Qrm14z (Z : State) (r0 : Addr) (p1 : Int32) (wd : Addr) (hd : Addr) (il : Addr) (ix : Addr) (fi : Nat → Int32) (w : Int64) (h0 : Heap) (n0 : Nat) (v : Option Value) (h : Heap) (L : List Loc) : Prop := v = none ∧ Fr n0 L ∧ Keep h0 h [r0, wd, hd, il, ix] ∧ Exa Z h r0 oC1 ∧ Fld Z h r0 oC1 "words" "[J" (.ref wd) ∧ Fld Z h r0 oC1 "held" "[Z" (.ref hd) ∧ Fld Z h r0 oC1 "blocks" oC5 (.ref il) ∧ Fld Z h r0 oC1 "sorted" "Z" (.int 1) ∧ Exa Z h il oC3 ∧ Fld Z h il oC3 "indices" "[I" (.ref ix) ∧ Fld Z h il oC3 "size" "I" (.int 1) ∧ own_Arf Z h ix .int (16 : Int32) (fun i => .int ((own_set fi (0 : Int32) (0 : Int32)) i)) ∧ own_Arf Z h wd .long (16 : Int32) (fun i => .long ((own_w0 (w ||| (own_lshl (1 : Int64) p1))) i)) ∧ own_Arf Z h hd .boolean (1 : Int32) (fun i => .int ((fun _ => (1 : Int32)) i))
set_option maxRecDepth 65536 in
set_option maxHeartbeats 40000000 in
theorem rm14z (l : Launch) (Z : State) (a0 : Array Value) (hw : oH Z a0) (ws : List Jvm.Cond) (r0 : Addr) (p1 : Int32) (wd : Addr) (hd : Addr) (il : Addr) (ix : Addr) (fi : Nat → Int32) (w : Int64) (h0 : Heap) (n0 : Nat) (Z0 : n0 ≤ h0.size) (E_r0_0 : Exa Z h0 r0 oC1) (F_words_r0_0 : Fld Z h0 r0 oC1 "words" "[J" (.ref wd)) (F_held_r0_0 : Fld Z h0 r0 oC1 "held" "[Z" (.ref hd)) (F_blocks_r0_0 : Fld Z h0 r0 oC1 "blocks" oC5 (.ref il)) (F_sorted_r0_0 : Fld Z h0 r0 oC1 "sorted" "Z" (.int 1)) (E_il_0 : Exa Z h0 il oC3) (F_indices_il_0 : Fld Z h0 il oC3 "indices" "[I" (.ref ix)) (F_size_il_0 : Fld Z h0 il oC3 "size" "I" (.int 0)) (A_ix_0 : own_Arf Z h0 ix .int (16 : Int32) (fun i => .int (fi i))) (A_wd_0 : own_Arf Z h0 wd .long (16 : Int32) (fun i => .long ((own_w0 w) i))) (A_hd_0 : own_Arf Z h0 hd .boolean (1 : Int32) (fun i => .int ((fun _ => (0 : Int32)) i))) (hp : own_n3 p1) (ge_r0 : n0 ≤ r0) (ge_wd : n0 ≤ wd) (ge_hd : n0 ≤ hd) (ge_il : n0 ≤ il) (ge_ix : n0 ≤ ix) :
    MetFree l oM19 (head1 (Jvm.Cond.code oM19 prog_49_method_2_code 2 none :: ws) rm14z_room) (fun a U => a = #[(.ref r0), (.int p1)] ∧ Z.Warmed39 U.vm ∧ U.heap = h0) (fun _ _ _ _ _ => True) (fun _ U o U' => ∃ v L, o = .returned v ∧ Qrm14z Z r0 p1 wd hd il ix fi w h0 n0 v U'.heap L ∧ FrameEnd U o U' L rm14z_room.cells rm14z_room.slots) := by
 refine MetFree.of_bodySF (plainFor_of_name pn_14) hisR ?_
 intro p e s m args below meth c s₁ Bd hml0 hP hK
 obtain ⟨rfl, hZ, hh⟩ := hP
 have hx := Bd.exec
 have hby := Bd.bytes
 have hml : c.maxLocals = 2 := hml0
 have hown : s.vm.findClass oC1 = some m.cls := findClass_of_methodNamed Bd.named
 have hnm := (name_of_methodNamed Bd.named Bd.method).1
 have hlk : meth.locks = false := BodyLoose.notSynchronized Bd
 have X0 : Stand p l e rm14z_room s m #[(.ref r0), (.int p1)] below meth c s₁ [] 0 0 := Stand.of_body Bd
 have e0 : s₁.heap = h0 := by rw [← hh, Bd.state]; rfl
 have N0 := Fr.nil n0
 show own_Fin p.tables e below s (Qrm14z Z r0 p1 wd hd il ix fi w h0 n0) rm14z_room.cells rm14z_room.slots (s₁.setTop (entryFrame m #[(.ref r0), (.int p1)] 2))
 rw [ef_14]
 show oF (s₁.setTop (mkF m 0 #[oR r0, oI p1] []))
 have K0 := Keep.refl h0 [r0, wd, hd, il, ix]
 refine own_go (fun _ k => XS.aloadN X0.here hx rfl (hb hby d14_0) rfl rfl k) ?_
 obtain ⟨T1, X1, e1, st1⟩ := getF X0 hx hZ hown (host := "") (Or.inl (oW hw 52 rfl)) Via.refl e0 F_words_r0_0 (g := (mkF m 1 #[oR r0, oI p1] [(.ref r0)])) rfl rfl (hb hby d14_1)
 refine own_go (fun tg k => st1 tg k) ?_
 refine own_go (fun _ k => XS.iloadN X1.here hx rfl (hb hby d14_4) rfl (XS.bipush X1.here hx rfl (hb hby d14_5) (XS.idiv X1.here hx rfl (hb hby d14_7) rfl (by decide) k))) ?_
 show oF (T1.setTop (mkF m 8 #[oR r0, oI p1] [(.int (p1 / (64 : Int32))), (.ref wd)]))
 have hr2 : (p1 / (64 : Int32)) = (0 : Int32) := (own_d64 hp)
 rw [hr2]
 show oF (T1.setTop (mkF m 8 #[oR r0, oI p1] [(.int 0), (.ref wd)]))
 refine own_go (fun _ k => Jvm.Free.XT.dup2 X1.here hx rfl (hb hby d14_8) rfl rfl rfl k) ?_
 refine own_go (fun tg k => own_laload X1 hx hZ e1 A_wd_0 (j := (0 : Int32)) ⟨by decide, by decide⟩ (x := ((own_w0 w) 0)) rfl (g := (mkF m 9 #[oR r0, oI p1] [(.int 0), (.ref wd), (.int 0), (.ref wd)])) rfl rfl (hb hby d14_9) tg k) ?_
 refine own_go (fun _ k => XS.lconst X1.here hx rfl (hb hby d14_10) (XS.iloadN X1.here hx rfl (hb hby d14_11) rfl (XS.lshl X1.here hx rfl (hb hby d14_12) rfl k))) ?_
 show oF (T1.setTop (mkF m 13 #[oR r0, oI p1] [(.long (own_lshl (1 : Int64) p1)), (.long ((own_w0 w) 0)), (.int 0), (.ref wd)]))
 refine own_go (fun _ k => XS.lor X1.here hx rfl (hb hby d14_13) rfl k) ?_
 obtain ⟨T3, h3, X3, e3, W3, A_wd_3, st3⟩ := own_stJ X1 hx hZ e1 A_wd_0 (j := (0 : Int32)) ⟨by decide, by decide⟩ (g := (mkF m 14 #[oR r0, oI p1] [(.long (((own_w0 w) 0) ||| (own_lshl (1 : Int64) p1))), (.int 0), (.ref wd)])) rfl rfl (hb hby d14_14)
 have E_r0_3 := E_r0_0.wr W3
 have u3_r0 := (own_ne_arf E_r0_0 (oW hw 27 rfl) A_wd_0)
 have F_words_r0_3 := F_words_r0_0.other W3 (Or.inl u3_r0)
 have F_held_r0_3 := F_held_r0_0.other W3 (Or.inl u3_r0)
 have F_blocks_r0_3 := F_blocks_r0_0.other W3 (Or.inl u3_r0)
 have F_sorted_r0_3 := F_sorted_r0_0.other W3 (Or.inl u3_r0)
 have E_il_3 := E_il_0.wr W3
 have u3_il := (own_ne_arf E_il_0 (oW hw 38 rfl) A_wd_0)
 have F_indices_il_3 := F_indices_il_0.other W3 (Or.inl u3_il)
 have F_size_il_3 := F_size_il_0.other W3 (Or.inl u3_il)
 have A_ix_3 := A_ix_0.other W3 (own_ne_ty A_ix_0 A_wd_0 (by decide))
 have A_hd_3 := A_hd_0.other W3 (own_ne_ty A_hd_0 A_wd_0 (by decide))
 have K3 := K0.wr W3 (Or.inl (List.mem_of_getElem? (i := 1) rfl))
 have N3 := Fr.snoc X3 N0 ge_wd
 have Z3 : n0 ≤ h3.size := Nat.le_trans Z0 (Keep.of_wr W3).1
 refine own_go (fun tg k => st3 tg k) ?_
 refine own_go (fun _ k => XS.aloadN X3.here hx rfl (hb hby d14_15) rfl rfl (XS.iloadN X3.here hx rfl (hb hby d14_16) rfl (XS.sipush X3.here hx rfl (hb hby d14_17) (XS.idiv X3.here hx rfl (hb hby d14_20) rfl (by decide) k)))) ?_
 show oF (T3.setTop (mkF m 21 #[oR r0, oI p1] [(.int (p1 / (1024 : Int32))), (.ref r0)]))
 have hr4 : (p1 / (1024 : Int32)) = (0 : Int32) := (own_d1024 hp)
 rw [hr4]
 show oF (T3.setTop (mkF m 21 #[oR r0, oI p1] [(.int 0), (.ref r0)]))
 obtain ⟨cq5, q5, q5'⟩ := E_r0_3.cell
 obtain ⟨_, _, ⟨T5, L5, k5, n5⟩, -, X5, ⟨Lc5, hQ5, l5, y5, z5⟩, st5⟩ := X3.privateBack hx (y := oM18) hown (mvT hZ (oW hw 131 rfl)) (mvT hZ (oW hw 132 rfl)) (own_selpriv (z := oM11) rfl (mvT (args := #[]) hZ (oW hw 94 rfl)) (Cond.privateMethod_at (mvP hZ (oW hw 133 rfl) (args := #[]))) (mvT hZ (oW hw 132 rfl)) (by decide)) (Cond.privateMethod_at (mvP hZ (oW hw 133 rfl) (args := #[]))) (mvT hZ (oW hw 134 rfl)) (by decide) (backOf (W := 0) (rm15z l Z a0 hw [] r0 wd hd il ix fi h3 n0 Z3 E_r0_3 F_words_r0_3 F_held_r0_3 F_blocks_r0_3 F_sorted_r0_3 E_il_3 F_indices_il_3 F_size_il_3 A_ix_3 A_hd_3 ge_r0 ge_wd ge_hd ge_il ge_ix) hZ (oW hw 134 rfl) (oW hw 28 rfl) (by decide) (by decide)) (g := (mkF m 21 #[oR r0, oI p1] [(.int 0), (.ref r0)])) rfl (by rw [hml]; rfl) (Steps.refl _) (a := r0) (by rw [e3]; exact q5) q5' (argsL := [(.int 0)]) (rest := []) (lenOf own_pd308 rfl) rfl (by show 2 * 0 + _ ≤ _; exact Nat.le_of_eq rfl) (hb hby d14_21) (fun _ _ => ⟨rfl, e3, (by decide : 0 + 0 ≤ _), (by decide : 0 + 0 ≤ _)⟩)
 dsimp only [Pt.U, Pt.locs, Pt.cells, Pt.slots] at X5 l5 y5 z5 st5 hQ5
 replace y5 : 0 = k5 := y5.symm
 replace z5 : 0 = n5 := z5.symm
 subst y5 z5
 obtain ⟨rfl, N5q, Kq5, E_r0_5, F_words_r0_5, F_held_r0_5, F_blocks_r0_5, F_sorted_r0_5, E_il_5, F_indices_il_5, F_size_il_5, A_ix_5, A_hd_5⟩ := hQ5
 have N5 : Fr n0 L5 := by rw [l5]; exact Fr.app N3 N5q
 have A_wd_5 := A_wd_3.keep Kq5 (ninS (Ne.symm (own_ne_arf E_r0_3 (oW hw 27 rfl) A_wd_3)) (ninS (own_ne_ty A_wd_3 A_hd_3 (by decide)) (ninS (Ne.symm (own_ne_arf E_il_3 (oW hw 38 rfl) A_wd_3)) (ninS (own_ne_ty A_wd_3 A_ix_3 (by decide)) nin0))))
 have K5 := Keep.trans K3 Kq5 (allS (Or.inl (List.mem_of_getElem? (i := 0) rfl)) (allS (Or.inl (List.mem_of_getElem? (i := 2) rfl)) (allS (Or.inl (List.mem_of_getElem? (i := 3) rfl)) (allS (Or.inl (List.mem_of_getElem? (i := 4) rfl)) all0))))
 have Z5 : n0 ≤ T5.heap.size := Nat.le_trans Z3 Kq5.1
 refine own_go (fun tg k => st5.trans k) ?_
 show oF (T5.setTop (mkF m 24 #[oR r0, oI p1] []))
 refine own_retV X5 hx hlk Bd.returns (hb hby d14_24) (Nat.le_of_ble_eq_true rfl) (Nat.le_of_ble_eq_true rfl) ?_
 refine ⟨rfl, N5, K5, E_r0_5, ?_, ?_, ?_, ?_, E_il_5, ?_, ?_, ?_, ?_, ?_⟩
 · (exact F_words_r0_5)
 · (exact F_held_r0_5)
 · (exact F_blocks_r0_5)
 · (exact F_sorted_r0_5)
 · (exact F_indices_il_5)
 · (exact F_size_il_5)
 · (exact A_ix_5)
 · ( exact own_Arf.fn A_wd_5 (fun j hj => congrArg Value.long (own_w0s _ _ j)))
 · (exact A_hd_5)
def rm14o_room : Room := { frames := 1, cells := 0, slots := 0, locals := 13 }
def Qrm14o (Z : State) (r0 : Addr) (p1 : Int32) (wd : Addr) (hd : Addr) (il : Addr) (ix : Addr) (fi : Nat → Int32) (w : Int64) (h0 : Heap) (n0 : Nat) (v : Option Value) (h : Heap) (L : List Loc) : Prop := v = none ∧ Fr n0 L ∧ Keep h0 h [r0, wd, hd, il, ix] ∧ Exa Z h r0 oC1 ∧ Fld Z h r0 oC1 "words" "[J" (.ref wd) ∧ Fld Z h r0 oC1 "held" "[Z" (.ref hd) ∧ Fld Z h r0 oC1 "blocks" oC5 (.ref il) ∧ Fld Z h r0 oC1 "sorted" "Z" (.int 1) ∧ Exa Z h il oC3 ∧ Fld Z h il oC3 "indices" "[I" (.ref ix) ∧ Fld Z h il oC3 "size" "I" (.int 1) ∧ own_Arf Z h ix .int (16 : Int32) (fun i => .int (fi i)) ∧ own_Arf Z h wd .long (16 : Int32) (fun i => .long ((own_w0 (w ||| (own_lshl (1 : Int64) p1))) i)) ∧ own_Arf Z h hd .boolean (1 : Int32) (fun i => .int ((fun _ => (1 : Int32)) i))
set_option maxRecDepth 65536 in
set_option maxHeartbeats 40000000 in
theorem rm14o (l : Launch) (Z : State) (a0 : Array Value) (hw : oH Z a0) (ws : List Jvm.Cond) (r0 : Addr) (p1 : Int32) (wd : Addr) (hd : Addr) (il : Addr) (ix : Addr) (fi : Nat → Int32) (w : Int64) (h0 : Heap) (n0 : Nat) (Z0 : n0 ≤ h0.size) (E_r0_0 : Exa Z h0 r0 oC1) (F_words_r0_0 : Fld Z h0 r0 oC1 "words" "[J" (.ref wd)) (F_held_r0_0 : Fld Z h0 r0 oC1 "held" "[Z" (.ref hd)) (F_blocks_r0_0 : Fld Z h0 r0 oC1 "blocks" oC5 (.ref il)) (F_sorted_r0_0 : Fld Z h0 r0 oC1 "sorted" "Z" (.int 1)) (E_il_0 : Exa Z h0 il oC3) (F_indices_il_0 : Fld Z h0 il oC3 "indices" "[I" (.ref ix)) (F_size_il_0 : Fld Z h0 il oC3 "size" "I" (.int 1)) (A_ix_0 : own_Arf Z h0 ix .int (16 : Int32) (fun i => .int (fi i))) (A_wd_0 : own_Arf Z h0 wd .long (16 : Int32) (fun i => .long ((own_w0 w) i))) (A_hd_0 : own_Arf Z h0 hd .boolean (1 : Int32) (fun i => .int ((fun _ => (1 : Int32)) i))) (hp : own_n3 p1) (ge_r0 : n0 ≤ r0) (ge_wd : n0 ≤ wd) (ge_hd : n0 ≤ hd) (ge_il : n0 ≤ il) (ge_ix : n0 ≤ ix) :
    MetFree l oM19 (head1 (Jvm.Cond.code oM19 prog_49_method_2_code 2 none :: ws) rm14o_room) (fun a U => a = #[(.ref r0), (.int p1)] ∧ Z.Warmed39 U.vm ∧ U.heap = h0) (fun _ _ _ _ _ => True) (fun _ U o U' => ∃ v L, o = .returned v ∧ Qrm14o Z r0 p1 wd hd il ix fi w h0 n0 v U'.heap L ∧ FrameEnd U o U' L rm14o_room.cells rm14o_room.slots) := by
 refine MetFree.of_bodySF (plainFor_of_name pn_14) hisR ?_
 intro p e s m args below meth c s₁ Bd hml0 hP hK
 obtain ⟨rfl, hZ, hh⟩ := hP
 have hx := Bd.exec
 have hby := Bd.bytes
 have hml : c.maxLocals = 2 := hml0
 have hown : s.vm.findClass oC1 = some m.cls := findClass_of_methodNamed Bd.named
 have hnm := (name_of_methodNamed Bd.named Bd.method).1
 have hlk : meth.locks = false := BodyLoose.notSynchronized Bd
 have X0 : Stand p l e rm14o_room s m #[(.ref r0), (.int p1)] below meth c s₁ [] 0 0 := Stand.of_body Bd
 have e0 : s₁.heap = h0 := by rw [← hh, Bd.state]; rfl
 have N0 := Fr.nil n0
 show own_Fin p.tables e below s (Qrm14o Z r0 p1 wd hd il ix fi w h0 n0) rm14o_room.cells rm14o_room.slots (s₁.setTop (entryFrame m #[(.ref r0), (.int p1)] 2))
 rw [ef_14]
 show oF (s₁.setTop (mkF m 0 #[oR r0, oI p1] []))
 have K0 := Keep.refl h0 [r0, wd, hd, il, ix]
 refine own_go (fun _ k => XS.aloadN X0.here hx rfl (hb hby d14_0) rfl rfl k) ?_
 obtain ⟨T1, X1, e1, st1⟩ := getF X0 hx hZ hown (host := "") (Or.inl (oW hw 52 rfl)) Via.refl e0 F_words_r0_0 (g := (mkF m 1 #[oR r0, oI p1] [(.ref r0)])) rfl rfl (hb hby d14_1)
 refine own_go (fun tg k => st1 tg k) ?_
 refine own_go (fun _ k => XS.iloadN X1.here hx rfl (hb hby d14_4) rfl (XS.bipush X1.here hx rfl (hb hby d14_5) (XS.idiv X1.here hx rfl (hb hby d14_7) rfl (by decide) k))) ?_
 show oF (T1.setTop (mkF m 8 #[oR r0, oI p1] [(.int (p1 / (64 : Int32))), (.ref wd)]))
 have hr2 : (p1 / (64 : Int32)) = (0 : Int32) := (own_d64 hp)
 rw [hr2]
 show oF (T1.setTop (mkF m 8 #[oR r0, oI p1] [(.int 0), (.ref wd)]))
 refine own_go (fun _ k => Jvm.Free.XT.dup2 X1.here hx rfl (hb hby d14_8) rfl rfl rfl k) ?_
 refine own_go (fun tg k => own_laload X1 hx hZ e1 A_wd_0 (j := (0 : Int32)) ⟨by decide, by decide⟩ (x := ((own_w0 w) 0)) rfl (g := (mkF m 9 #[oR r0, oI p1] [(.int 0), (.ref wd), (.int 0), (.ref wd)])) rfl rfl (hb hby d14_9) tg k) ?_
 refine own_go (fun _ k => XS.lconst X1.here hx rfl (hb hby d14_10) (XS.iloadN X1.here hx rfl (hb hby d14_11) rfl (XS.lshl X1.here hx rfl (hb hby d14_12) rfl k))) ?_
 show oF (T1.setTop (mkF m 13 #[oR r0, oI p1] [(.long (own_lshl (1 : Int64) p1)), (.long ((own_w0 w) 0)), (.int 0), (.ref wd)]))
 refine own_go (fun _ k => XS.lor X1.here hx rfl (hb hby d14_13) rfl k) ?_
 obtain ⟨T3, h3, X3, e3, W3, A_wd_3, st3⟩ := own_stJ X1 hx hZ e1 A_wd_0 (j := (0 : Int32)) ⟨by decide, by decide⟩ (g := (mkF m 14 #[oR r0, oI p1] [(.long (((own_w0 w) 0) ||| (own_lshl (1 : Int64) p1))), (.int 0), (.ref wd)])) rfl rfl (hb hby d14_14)
 have E_r0_3 := E_r0_0.wr W3
 have u3_r0 := (own_ne_arf E_r0_0 (oW hw 27 rfl) A_wd_0)
 have F_words_r0_3 := F_words_r0_0.other W3 (Or.inl u3_r0)
 have F_held_r0_3 := F_held_r0_0.other W3 (Or.inl u3_r0)
 have F_blocks_r0_3 := F_blocks_r0_0.other W3 (Or.inl u3_r0)
 have F_sorted_r0_3 := F_sorted_r0_0.other W3 (Or.inl u3_r0)
 have E_il_3 := E_il_0.wr W3
 have u3_il := (own_ne_arf E_il_0 (oW hw 38 rfl) A_wd_0)
 have F_indices_il_3 := F_indices_il_0.other W3 (Or.inl u3_il)
 have F_size_il_3 := F_size_il_0.other W3 (Or.inl u3_il)
 have A_ix_3 := A_ix_0.other W3 (own_ne_ty A_ix_0 A_wd_0 (by decide))
 have A_hd_3 := A_hd_0.other W3 (own_ne_ty A_hd_0 A_wd_0 (by decide))
 have K3 := K0.wr W3 (Or.inl (List.mem_of_getElem? (i := 1) rfl))
 have N3 := Fr.snoc X3 N0 ge_wd
 have Z3 : n0 ≤ h3.size := Nat.le_trans Z0 (Keep.of_wr W3).1
 refine own_go (fun tg k => st3 tg k) ?_
 refine own_go (fun _ k => XS.aloadN X3.here hx rfl (hb hby d14_15) rfl rfl (XS.iloadN X3.here hx rfl (hb hby d14_16) rfl (XS.sipush X3.here hx rfl (hb hby d14_17) (XS.idiv X3.here hx rfl (hb hby d14_20) rfl (by decide) k)))) ?_
 show oF (T3.setTop (mkF m 21 #[oR r0, oI p1] [(.int (p1 / (1024 : Int32))), (.ref r0)]))
 have hr4 : (p1 / (1024 : Int32)) = (0 : Int32) := (own_d1024 hp)
 rw [hr4]
 show oF (T3.setTop (mkF m 21 #[oR r0, oI p1] [(.int 0), (.ref r0)]))
 obtain ⟨cq5, q5, q5'⟩ := E_r0_3.cell
 obtain ⟨_, _, ⟨T5, L5, k5, n5⟩, -, X5, ⟨Lc5, hQ5, l5, y5, z5⟩, st5⟩ := X3.privateBack hx (y := oM18) hown (mvT hZ (oW hw 131 rfl)) (mvT hZ (oW hw 132 rfl)) (own_selpriv (z := oM11) rfl (mvT (args := #[]) hZ (oW hw 94 rfl)) (Cond.privateMethod_at (mvP hZ (oW hw 133 rfl) (args := #[]))) (mvT hZ (oW hw 132 rfl)) (by decide)) (Cond.privateMethod_at (mvP hZ (oW hw 133 rfl) (args := #[]))) (mvT hZ (oW hw 134 rfl)) (by decide) (backOf (W := 0) (rm15o l Z a0 hw [] r0 hd h3 n0 Z3 E_r0_3 F_held_r0_3 A_hd_3) hZ (oW hw 134 rfl) (oW hw 28 rfl) (by decide) (by decide)) (g := (mkF m 21 #[oR r0, oI p1] [(.int 0), (.ref r0)])) rfl (by rw [hml]; rfl) (Steps.refl _) (a := r0) (by rw [e3]; exact q5) q5' (argsL := [(.int 0)]) (rest := []) (lenOf own_pd308 rfl) rfl (by show 2 * 0 + _ ≤ _; exact Nat.le_of_eq rfl) (hb hby d14_21) (fun _ _ => ⟨rfl, e3, (by decide : 0 + 0 ≤ _), (by decide : 0 + 0 ≤ _)⟩)
 dsimp only [Pt.U, Pt.locs, Pt.cells, Pt.slots] at X5 l5 y5 z5 st5 hQ5
 replace y5 : 0 = k5 := y5.symm
 replace z5 : 0 = n5 := z5.symm
 subst y5 z5
 obtain ⟨rfl, N5q, e5⟩ := hQ5
 have N5 : Fr n0 L5 := by rw [l5]; exact Fr.app N3 N5q
 refine own_go (fun tg k => st5.trans k) ?_
 show oF (T5.setTop (mkF m 24 #[oR r0, oI p1] []))
 refine own_retV X5 hx hlk Bd.returns (hb hby d14_24) (Nat.le_of_ble_eq_true rfl) (Nat.le_of_ble_eq_true rfl) ?_
 rw [e5]
 refine ⟨rfl, N5, K3, E_r0_3, ?_, ?_, ?_, ?_, E_il_3, ?_, ?_, ?_, ?_, ?_⟩
 · (exact F_words_r0_3)
 · (exact F_held_r0_3)
 · (exact F_blocks_r0_3)
 · (exact F_sorted_r0_3)
 · (exact F_indices_il_3)
 · (exact F_size_il_3)
 · (exact A_ix_3)
 · ( exact own_Arf.fn A_wd_3 (fun j hj => congrArg Value.long (own_w0s _ _ j)))
 · (exact A_hd_3)
def own_nxt (w : Int64) (p : Int32) : Int32 := if own_bt w p = 0 then -1 else own_f21 (own_bt w p)
theorem own_nxt0 {w : Int64} {p wi : Int32} {bt : Int64} (h : own_nI w p wi bt) (h0 : bt = 0) : (some (Value.int (-1 : Int32)) : Option Value) = some (.int (own_nxt w p)) := by
  unfold own_nxt; rw [if_pos (own_nI0 h h0)]
theorem own_nxt1 {w : Int64} {p wi : Int32} {bt : Int64} (h : own_nI w p wi bt) (h0 : ¬ bt = 0) : (some (Value.int ((wi * (64 : Int32)) + (own_f21 bt))) : Option Value) = some (.int (own_nxt w p)) := by
  obtain ⟨rfl, rfl, h1⟩ := own_nI1 h h0
  unfold own_nxt; rw [if_neg h1, show (0 : Int32) * 64 = 0 from by decide, Int32.zero_add]
theorem own_nIi {w : Int64} {p wi : Int32} {bt : Int64} (h : own_nI w p wi bt) : True := trivial
theorem own_pd357 : parseMethodDescriptor "(J)I" = some ⟨[.long], some .int⟩ := by decide +kernel
theorem d20_0 : oQ oD20 0 (.iload_n 1) 1 := by decide +kernel
theorem d20_1 : oQ oD20 1 (.iconst 1) 1 := by decide +kernel
theorem d20_2 : oQ oD20 2 .iadd 1 := by decide +kernel
theorem d20_3 : oQ oD20 3 (.bipush 16) 2 := by decide +kernel
theorem d20_5 : oQ oD20 5 .imul 1 := by decide +kernel
theorem d20_6 : oQ oD20 6 (.istore_n 3) 1 := by decide +kernel
theorem d20_7 : oQ oD20 7 (.iload_n 2) 1 := by decide +kernel
theorem d20_8 : oQ oD20 8 (.bipush 64) 2 := by decide +kernel
theorem d20_10 : oQ oD20 10 .idiv 1 := by decide +kernel
theorem d20_11 : oQ oD20 11 (.istore 4) 2 := by decide +kernel
theorem d20_13 : oQ oD20 13 (.iload 4) 2 := by decide +kernel
theorem d20_15 : oQ oD20 15 (.iload_n 3) 1 := by decide +kernel
theorem d20_16 : oQ oD20 16 (.if_icmp .lt 5) 3 := by decide +kernel
theorem d20_21 : oQ oD20 21 (.aload_n 0) 1 := by decide +kernel
theorem d20_22 : oQ oD20 22 (.getfield 24) 3 := by decide +kernel
theorem d20_25 : oQ oD20 25 (.iload 4) 2 := by decide +kernel
theorem d20_27 : oQ oD20 27 .laload 1 := by decide +kernel
theorem d20_28 : oQ oD20 28 (.ldc2_w 57) 3 := by decide +kernel
theorem d20_31 : oQ oD20 31 (.iload_n 2) 1 := by decide +kernel
theorem d20_32 : oQ oD20 32 .lshl 1 := by decide +kernel
theorem d20_33 : oQ oD20 33 .land 1 := by decide +kernel
theorem d20_34 : oQ oD20 34 (.lstore 5) 2 := by decide +kernel
theorem d20_36 : oQ oD20 36 (.lload 5) 2 := by decide +kernel
theorem d20_38 : oQ oD20 38 (.lconst 0) 1 := by decide +kernel
theorem d20_39 : oQ oD20 39 .lcmp 1 := by decide +kernel
theorem d20_40 : oQ oD20 40 (.ifCond .ne 26) 3 := by decide +kernel
theorem d20_43 : oQ oD20 43 (.iinc 4 1) 3 := by decide +kernel
theorem d20_46 : oQ oD20 46 (.iload 4) 2 := by decide +kernel
theorem d20_48 : oQ oD20 48 (.iload_n 3) 1 := by decide +kernel
theorem d20_49 : oQ oD20 49 (.if_icmp .ne 5) 3 := by decide +kernel
theorem d20_52 : oQ oD20 52 (.iconst (-1)) 1 := by decide +kernel
theorem d20_53 : oQ oD20 53 .ireturn 1 := by decide +kernel
theorem d20_54 : oQ oD20 54 (.aload_n 0) 1 := by decide +kernel
theorem d20_55 : oQ oD20 55 (.getfield 24) 3 := by decide +kernel
theorem d20_58 : oQ oD20 58 (.iload 4) 2 := by decide +kernel
theorem d20_60 : oQ oD20 60 .laload 1 := by decide +kernel
theorem d20_61 : oQ oD20 61 (.lstore 5) 2 := by decide +kernel
theorem d20_63 : oQ oD20 63 (.goto (-27)) 3 := by decide +kernel
theorem d20_66 : oQ oD20 66 (.iload 4) 2 := by decide +kernel
theorem d20_68 : oQ oD20 68 (.bipush 64) 2 := by decide +kernel
theorem d20_70 : oQ oD20 70 .imul 1 := by decide +kernel
theorem d20_71 : oQ oD20 71 (.lload 5) 2 := by decide +kernel
theorem d20_73 : oQ oD20 73 (.invokestatic 59) 3 := by decide +kernel
theorem d20_76 : oQ oD20 76 .iadd 1 := by decide +kernel
theorem d20_77 : oQ oD20 77 .ireturn 1 := by decide +kernel
theorem pn_20 : plainName oC1 = true := by first | (simp [plainName, overriddenIn]; done) | decide +kernel
theorem ef_20_0Int32 (m : MethodId) (r0 : Addr) (p2 : Int32) : entryFrame m #[(.ref r0), (.int 0), (.int p2)] 7 = mkF m 0 #[oR r0, oI 0, oI p2, oU, oU, oU, oU] [] := by first | (simp [entryFrame, mkF, argsToLocals, Value.category]; done) | rfl
def rm20_room : Room := { frames := 2, cells := 0, slots := 0, locals := 29 }
def Qrm20 (Z : State) (r0 : Addr) (p2 : Int32) (wd : Addr) (w : Int64) (h0 : Heap) (n0 : Nat) (v : Option Value) (h : Heap) (L : List Loc) : Prop := v = some (.int (own_nxt w p2)) ∧ Fr n0 L ∧ h = h0
set_option maxRecDepth 65536 in
set_option maxHeartbeats 40000000 in
theorem rm20 (l : Launch) (Z : State) (a0 : Array Value) (hw : oH Z a0) (ws : List Jvm.Cond) (r0 : Addr) (p2 : Int32) (wd : Addr) (w : Int64) (h0 : Heap) (n0 : Nat) (Z0 : n0 ≤ h0.size) (F_words_r0_0 : Fld Z h0 r0 oC1 "words" "[J" (.ref wd)) (A_wd_0 : own_Arf Z h0 wd .long (16 : Int32) (fun i => .long ((own_w0 w) i))) (hp : own_n4 p2) :
    MetFree l oM20 (head1 (Jvm.Cond.code oM20 prog_49_method_8_code 7 (some .int) :: ws) rm20_room) (fun a U => a = #[(.ref r0), (.int 0), (.int p2)] ∧ Z.Warmed39 U.vm ∧ U.heap = h0) (fun _ _ _ _ _ => True) (fun _ U o U' => ∃ v L, o = .returned v ∧ Qrm20 Z r0 p2 wd w h0 n0 v U'.heap L ∧ FrameEnd U o U' L rm20_room.cells rm20_room.slots) := by
 refine MetFree.of_bodySF (plainFor_of_name pn_20) hisR ?_
 intro p e s m args below meth c s₁ Bd hml0 hP hK
 obtain ⟨rfl, hZ, hh⟩ := hP
 have hx := Bd.exec
 have hby := Bd.bytes
 have hml : c.maxLocals = 7 := hml0
 have hown : s.vm.findClass oC1 = some m.cls := findClass_of_methodNamed Bd.named
 have hnm := (name_of_methodNamed Bd.named Bd.method).1
 have hlk : meth.locks = false := BodyLoose.notSynchronized Bd
 have X0 : Stand p l e rm20_room s m #[(.ref r0), (.int 0), (.int p2)] below meth c s₁ [] 0 0 := Stand.of_body Bd
 have e0 : s₁.heap = h0 := by rw [← hh, Bd.state]; rfl
 have N0 := Fr.nil n0
 show own_Fin p.tables e below s (Qrm20 Z r0 p2 wd w h0 n0) rm20_room.cells rm20_room.slots (s₁.setTop (entryFrame m #[(.ref r0), (.int 0), (.int p2)] 7))
 rw [ef_20_0Int32]
 show oF (s₁.setTop (mkF m 0 #[oR r0, oI 0, oI p2, oU, oU, oU, oU] []))
 refine own_go (fun _ k => XS.iloadN X0.here hx rfl (hb hby d20_0) rfl (XS.iconst X0.here hx rfl (hb hby d20_1) (XS.iadd X0.here hx rfl (hb hby d20_2) rfl k))) ?_
 show oF (s₁.setTop (mkF m 3 #[oR r0, oI 0, oI p2, oU, oU, oU, oU] [(.int 1)]))
 refine own_go (fun _ k => XS.bipush X0.here hx rfl (hb hby d20_3) (XS.imul X0.here hx rfl (hb hby d20_5) rfl k)) ?_
 show oF (s₁.setTop (mkF m 6 #[oR r0, oI 0, oI p2, oU, oU, oU, oU] [(.int 16)]))
 refine own_go (fun _ k => XS.istoreN X0.here hx rfl (hb hby d20_6) rfl (l' := #[oR r0, oI 0, oI p2, oI 16, oU, oU, oU]) rfl (XS.iloadN X0.here hx rfl (hb hby d20_7) rfl (XS.bipush X0.here hx rfl (hb hby d20_8) (XS.idiv X0.here hx rfl (hb hby d20_10) rfl (by decide) k)))) ?_
 show oF (s₁.setTop (mkF m 11 #[oR r0, oI 0, oI p2, oI 16, oU, oU, oU] [(.int (p2 / (64 : Int32)))]))
 have hr1 : (p2 / (64 : Int32)) = (0 : Int32) := (own_e64 hp)
 rw [hr1]
 show oF (s₁.setTop (mkF m 11 #[oR r0, oI 0, oI p2, oI 16, oU, oU, oU] [(.int 0)]))
 refine own_go (fun _ k => XS.istore X0.here hx rfl (hb hby d20_11) rfl (l' := #[oR r0, oI 0, oI p2, oI 16, oI 0, oU, oU]) rfl (XS.iload X0.here hx rfl (hb hby d20_13) rfl (XS.iloadN X0.here hx rfl (hb hby d20_15) rfl (XS.icmpYes X0.here hx rfl (pc0 := 16) (pc' := 21) rfl (hb hby d20_16) rfl (tlt (by decide)).1 (by decide) (by decide) (XS.aloadN X0.here hx rfl (hb hby d20_21) rfl rfl k))))) ?_
 obtain ⟨T2, X2, e2, st2⟩ := getF X0 hx hZ hown (host := "") (Or.inl (oW hw 52 rfl)) Via.refl e0 F_words_r0_0 (g := (mkF m 22 #[oR r0, oI 0, oI p2, oI 16, oI 0, oU, oU] [(.ref r0)])) rfl rfl (hb hby d20_22)
 refine own_go (fun tg k => st2 tg k) ?_
 refine own_go (fun _ k => XS.iload X2.here hx rfl (hb hby d20_25) rfl k) ?_
 refine own_go (fun tg k => own_laload X2 hx hZ e2 A_wd_0 (j := (0 : Int32)) ⟨by decide, by decide⟩ (x := ((own_w0 w) 0)) rfl (g := (mkF m 27 #[oR r0, oI 0, oI p2, oI 16, oI 0, oU, oU] [(.int 0), (.ref wd)])) rfl rfl (hb hby d20_27) tg k) ?_
 refine own_go (fun _ k => X2.ldc2Long hx hown (mvT hZ (oW hw 160 rfl)) (g := (mkF m 28 #[oR r0, oI 0, oI p2, oI 16, oI 0, oU, oU] [(.long ((own_w0 w) 0))])) rfl (hb hby d20_28) _ k) ?_
 refine own_go (fun _ k => XS.iloadN X2.here hx rfl (hb hby d20_31) rfl (XS.lshl X2.here hx rfl (hb hby d20_32) rfl k)) ?_
 show oF (T2.setTop (mkF m 33 #[oR r0, oI 0, oI p2, oI 16, oI 0, oU, oU] [(.long (own_lshl (-1 : Int64) p2)), (.long ((own_w0 w) 0))]))
 refine own_go (fun _ k => XS.land X2.here hx rfl (hb hby d20_33) rfl (XS.lstore X2.here hx rfl (hb hby d20_34) rfl (l' := #[oR r0, oI 0, oI p2, oI 16, oI 0, .val (.long (((own_w0 w) 0) &&& (own_lshl (-1 : Int64) p2))), oS]) rfl k)) ?_
 show oF (T2.setTop (mkF m 36 #[oR r0, oI 0, oI p2, oI 16, oI 0, .val (.long (((own_w0 w) 0) &&& (own_lshl (-1 : Int64) p2))), oS] []))
 have loopA : ∀ (kA : Nat) (wi : Int32) (bt : Int64) (TAL : State) (LAL : List Loc), kA = (16 - wi.toInt).toNat → own_nI w p2 wi bt → Stand p l e rm20_room s m #[(.ref r0), (.int 0), (.int p2)] below meth c TAL LAL 0 0 → Fr n0 LAL → TAL.heap = h0 → own_Fin p.tables e below s (Qrm20 Z r0 p2 wd w h0 n0) rm20_room.cells rm20_room.slots (TAL.setTop (mkF m 36 #[oR r0, oI 0, oI p2, oI 16, oI wi, oJ bt, oS] [])) := by
  intro kA
  induction kA using Nat.strongRecOn with
  | _ kA ihA =>
   intro wi bt TAL LAL hkA hI XAL NAL eAL
   show oF (TAL.setTop (mkF m 36 #[oR r0, oI 0, oI p2, oI 16, oI wi, oJ bt, oS] []))
   refine own_go (fun _ k => XS.lload XAL.here hx rfl (hb hby d20_36) rfl (XS.lconst XAL.here hx rfl (hb hby d20_38) (XS.lcmp XAL.here hx rfl (hb hby d20_39) rfl k))) ?_
   show oF (TAL.setTop (mkF m 40 #[oR r0, oI 0, oI p2, oI 16, oI wi, oJ bt, oS] [(.int (lcmpW bt (0 : Int64)))]))
   by_cases hc3 : bt = (0 : Int64)
   · refine own_go (fun _ k => XS.ifNo XAL.here hx rfl (hb hby d20_40) rfl ((if0 _ _).trans (teq ((lw_eq _ _).mpr hc3)).2) (XS.iinc XAL.here hx rfl (hb hby d20_43) rfl (l' := #[oR r0, oI 0, oI p2, oI 16, .val (.int (wi + (1 : Int32))), oJ bt, oS]) rfl (XS.iload XAL.here hx rfl (hb hby d20_46) rfl (XS.iloadN XAL.here hx rfl (hb hby d20_48) rfl k)))) ?_
     by_cases hc4 : (wi + (1 : Int32)) = (16 : Int32)
     · refine own_go (fun _ k => XS.icmpNo XAL.here hx rfl (hb hby d20_49) rfl (teq hc4).2 (XS.iconst XAL.here hx rfl (hb hby d20_52) k)) ?_
       refine own_ret XAL hx hlk Bd.returns rfl (Or.inl ⟨rfl, by simp, _, rfl⟩) (hb hby d20_53) (Nat.le_of_ble_eq_true rfl) (Nat.le_of_ble_eq_true rfl) ?_
       refine ⟨?_, NAL, eAL⟩
       · exact own_nxt0 hI hc3
     · refine own_go (fun _ k => XS.icmpYes XAL.here hx rfl (pc0 := 49) (pc' := 54) rfl (hb hby d20_49) rfl (feq hc4).2 (by decide) (by decide) (XS.aloadN XAL.here hx rfl (hb hby d20_54) rfl rfl k)) ?_
       obtain ⟨T5, X5, e5, st5⟩ := getF XAL hx hZ hown (host := "") (Or.inl (oW hw 52 rfl)) Via.refl eAL F_words_r0_0 (g := (mkF m 55 #[oR r0, oI 0, oI p2, oI 16, .val (.int (wi + (1 : Int32))), oJ bt, oS] [(.ref r0)])) rfl rfl (hb hby d20_55)
       refine own_go (fun tg k => st5 tg k) ?_
       refine own_go (fun _ k => XS.iload X5.here hx rfl (hb hby d20_58) rfl k) ?_
       refine own_go (fun tg k => own_laload X5 hx hZ e5 A_wd_0 (j := (wi + (1 : Int32))) (own_nIb hI hc3 hc4).2.2 (x := ((own_w0 w) (wi + (1 : Int32)).toNatClampNeg)) rfl (g := (mkF m 60 #[oR r0, oI 0, oI p2, oI 16, .val (.int (wi + (1 : Int32))), oJ bt, oS] [(.int (wi + (1 : Int32))), (.ref wd)])) rfl rfl (hb hby d20_60) tg k) ?_
       refine own_go (fun _ k => XS.lstore X5.here hx rfl (hb hby d20_61) rfl (l' := #[oR r0, oI 0, oI p2, oI 16, .val (.int (wi + (1 : Int32))), .val (.long ((own_w0 w) (wi + (1 : Int32)).toNatClampNeg)), oS]) rfl (XS.goto X5.here hx rfl (pc0 := 63) (pc' := 36) rfl (hb hby d20_63) (by decide) (by decide) k)) ?_
       show oF (T5.setTop (mkF m 36 #[oR r0, oI 0, oI p2, oI 16, .val (.int (wi + (1 : Int32))), .val (.long ((own_w0 w) (wi + (1 : Int32)).toNatClampNeg)), oS] []))
       exact ihA _ (Nat.lt_of_lt_of_eq (own_nIb hI hc3 hc4).2.1 hkA.symm) ((wi + (1 : Int32))) (((own_w0 w) (wi + (1 : Int32)).toNatClampNeg)) T5 _ rfl (own_nIb hI hc3 hc4).1 (own_mono X5 (by decide) (by decide)) NAL e5
   · refine own_go (fun _ k => XS.ifYes XAL.here hx rfl (pc0 := 40) (pc' := 66) rfl (hb hby d20_40) rfl ((if0 _ _).trans (feq (mt (lw_eq _ _).mp hc3)).2) (by decide) (by decide) (XS.iload XAL.here hx rfl (hb hby d20_66) rfl (XS.bipush XAL.here hx rfl (hb hby d20_68) (XS.imul XAL.here hx rfl (hb hby d20_70) rfl (XS.lload XAL.here hx rfl (hb hby d20_71) rfl k))))) ?_
     obtain ⟨_, _, ⟨T6, L6, k6, n6⟩, -, X6, ⟨Lc6, hQ6, l6, y6, z6⟩, st6⟩ := Jvm.LawKit.callS XAL hx (y := oM4) hown (mvT hZ (oW hw 161 rfl)) (mvT hZ (oW hw 162 rfl)) (mvT hZ (oW hw 163 rfl)) (mvT hZ (oW hw 164 rfl)) (by decide) (backOf (W := 1) (rm21 l Z a0 hw [] bt h0 n0 Z0) hZ (oW hw 164 rfl) (oW hw 163 rfl) (by decide) (by decide)) (g := (mkF m 73 #[oR r0, oI 0, oI p2, oI 16, oI wi, oJ bt, oS] [(.long bt), (.int (wi * (64 : Int32)))])) rfl (by rw [hml]; rfl) (argsL := [(.long bt)]) (rest := [(.int (wi * (64 : Int32)))]) (lenOf own_pd357 rfl) rfl (by show 2 * 0 + _ ≤ _; exact Nat.le_of_eq rfl) (hb hby d20_73) (fun _ _ => ⟨rfl, eAL, (by decide : 0 + 0 ≤ _), (by decide : 0 + 0 ≤ _)⟩)
     dsimp only [Pt.U, Pt.locs, Pt.cells, Pt.slots] at X6 l6 y6 z6 st6 hQ6
     replace y6 : 0 = k6 := y6.symm
     replace z6 : 0 = n6 := z6.symm
     subst y6 z6
     obtain ⟨rfl, N6q, e6⟩ := hQ6
     have N6 : Fr n0 L6 := by rw [l6]; exact Fr.app NAL N6q
     refine own_go (fun tg k => st6 tg k) ?_
     show oF (T6.setTop (mkF m 76 #[oR r0, oI 0, oI p2, oI 16, oI wi, oJ bt, oS] [(.int (own_f21 bt)), (.int (wi * (64 : Int32)))]))
     refine own_go (fun _ k => XS.iadd X6.here hx rfl (hb hby d20_76) rfl k) ?_
     refine own_ret X6 hx hlk Bd.returns rfl (Or.inl ⟨rfl, by simp, _, rfl⟩) (hb hby d20_77) (Nat.le_of_ble_eq_true rfl) (Nat.le_of_ble_eq_true rfl) ?_
     refine ⟨?_, N6, e6⟩
     · exact own_nxt1 hI hc3
 exact loopA _ ((0 : Int32)) ((((own_w0 w) 0) &&& (own_lshl (-1 : Int64) p2))) T2 _ rfl (Or.inl ⟨rfl, rfl⟩) (own_mono X2 (by decide) (by decide)) N0 e2
theorem own_sn405 {Z : State} {a0 : Array Value} (hw : oH Z a0) : oO Z oC2 "size" "I" ≠ oO Z oC2 "this$0" oC8 := slot_ne (Or.inl (oW hw 85 rfl)) (Or.inr (oW hw 70 rfl)) (by decide) (t := .int) (t' := (.object oC0)) (by decide) (by decide)
theorem own_sn406 {Z : State} {a0 : Array Value} (hw : oH Z a0) : oO Z oC2 "senders" "[I" ≠ oO Z oC2 "this$0" oC8 := slot_ne (Or.inl (oW hw 73 rfl)) (Or.inr (oW hw 70 rfl)) (by decide) (t := (.array .int)) (t' := (.object oC0)) (by decide) (by decide)
theorem own_sn407 {Z : State} {a0 : Array Value} (hw : oH Z a0) : oO Z oC2 "receivers" "[I" ≠ oO Z oC2 "this$0" oC8 := slot_ne (Or.inl (oW hw 75 rfl)) (Or.inr (oW hw 70 rfl)) (by decide) (t := (.array .int)) (t' := (.object oC0)) (by decide) (by decide)
theorem own_sn408 {Z : State} {a0 : Array Value} (hw : oH Z a0) : oO Z oC2 "messages" "[J" ≠ oO Z oC2 "this$0" oC8 := slot_ne (Or.inl (oW hw 77 rfl)) (Or.inr (oW hw 70 rfl)) (by decide) (t := (.array .long)) (t' := (.object oC0)) (by decide) (by decide)
theorem own_sn409 {Z : State} {a0 : Array Value} (hw : oH Z a0) : oO Z oC2 "size" "I" ≠ oO Z oC2 "senders" "[I" := slot_ne (Or.inl (oW hw 85 rfl)) (Or.inl (oW hw 73 rfl)) (by decide) (t := .int) (t' := (.array .int)) (by decide) (by decide)
theorem own_sn410 {Z : State} {a0 : Array Value} (hw : oH Z a0) : oO Z oC2 "receivers" "[I" ≠ oO Z oC2 "senders" "[I" := slot_ne (Or.inl (oW hw 75 rfl)) (Or.inl (oW hw 73 rfl)) (by decide) (t := (.array .int)) (t' := (.array .int)) (by decide) (by decide)
theorem own_sn411 {Z : State} {a0 : Array Value} (hw : oH Z a0) : oO Z oC2 "messages" "[J" ≠ oO Z oC2 "senders" "[I" := slot_ne (Or.inl (oW hw 77 rfl)) (Or.inl (oW hw 73 rfl)) (by decide) (t := (.array .long)) (t' := (.array .int)) (by decide) (by decide)
theorem own_sn412 {Z : State} {a0 : Array Value} (hw : oH Z a0) : oO Z oC2 "this$0" oC8 ≠ oO Z oC2 "senders" "[I" := slot_ne (Or.inr (oW hw 70 rfl)) (Or.inl (oW hw 73 rfl)) (by decide) (t := (.object oC0)) (t' := (.array .int)) (by decide) (by decide)
theorem own_sn413 {Z : State} {a0 : Array Value} (hw : oH Z a0) : oO Z oC2 "size" "I" ≠ oO Z oC2 "receivers" "[I" := slot_ne (Or.inl (oW hw 85 rfl)) (Or.inl (oW hw 75 rfl)) (by decide) (t := .int) (t' := (.array .int)) (by decide) (by decide)
theorem own_sn414 {Z : State} {a0 : Array Value} (hw : oH Z a0) : oO Z oC2 "senders" "[I" ≠ oO Z oC2 "receivers" "[I" := slot_ne (Or.inl (oW hw 73 rfl)) (Or.inl (oW hw 75 rfl)) (by decide) (t := (.array .int)) (t' := (.array .int)) (by decide) (by decide)
theorem own_sn415 {Z : State} {a0 : Array Value} (hw : oH Z a0) : oO Z oC2 "messages" "[J" ≠ oO Z oC2 "receivers" "[I" := slot_ne (Or.inl (oW hw 77 rfl)) (Or.inl (oW hw 75 rfl)) (by decide) (t := (.array .long)) (t' := (.array .int)) (by decide) (by decide)
theorem own_sn416 {Z : State} {a0 : Array Value} (hw : oH Z a0) : oO Z oC2 "this$0" oC8 ≠ oO Z oC2 "receivers" "[I" := slot_ne (Or.inr (oW hw 70 rfl)) (Or.inl (oW hw 75 rfl)) (by decide) (t := (.object oC0)) (t' := (.array .int)) (by decide) (by decide)
theorem own_sn417 {Z : State} {a0 : Array Value} (hw : oH Z a0) : oO Z oC2 "size" "I" ≠ oO Z oC2 "messages" "[J" := slot_ne (Or.inl (oW hw 85 rfl)) (Or.inl (oW hw 77 rfl)) (by decide) (t := .int) (t' := (.array .long)) (by decide) (by decide)
theorem own_sn418 {Z : State} {a0 : Array Value} (hw : oH Z a0) : oO Z oC2 "senders" "[I" ≠ oO Z oC2 "messages" "[J" := slot_ne (Or.inl (oW hw 73 rfl)) (Or.inl (oW hw 77 rfl)) (by decide) (t := (.array .int)) (t' := (.array .long)) (by decide) (by decide)
theorem own_sn419 {Z : State} {a0 : Array Value} (hw : oH Z a0) : oO Z oC2 "receivers" "[I" ≠ oO Z oC2 "messages" "[J" := slot_ne (Or.inl (oW hw 75 rfl)) (Or.inl (oW hw 77 rfl)) (by decide) (t := (.array .int)) (t' := (.array .long)) (by decide) (by decide)
theorem own_sn420 {Z : State} {a0 : Array Value} (hw : oH Z a0) : oO Z oC2 "this$0" oC8 ≠ oO Z oC2 "messages" "[J" := slot_ne (Or.inr (oW hw 70 rfl)) (Or.inl (oW hw 77 rfl)) (by decide) (t := (.object oC0)) (t' := (.array .long)) (by decide) (by decide)
theorem d7_0 : oQ oD21 0 (.aload_n 0) 1 := by decide +kernel
theorem d7_1 : oQ oD21 1 (.aload_n 1) 1 := by decide +kernel
theorem d7_2 : oQ oD21 2 (.putfield 3) 3 := by decide +kernel
theorem d7_5 : oQ oD21 5 (.aload_n 0) 1 := by decide +kernel
theorem d7_6 : oQ oD21 6 (.invokespecial 9) 3 := by decide +kernel
theorem d7_9 : oQ oD21 9 (.aload_n 0) 1 := by decide +kernel
theorem d7_10 : oQ oD21 10 (.bipush 16) 2 := by decide +kernel
theorem d7_12 : oQ oD21 12 (.newarray .int) 2 := by decide +kernel
theorem d7_14 : oQ oD21 14 (.putfield 15) 3 := by decide +kernel
theorem d7_17 : oQ oD21 17 (.aload_n 0) 1 := by decide +kernel
theorem d7_18 : oQ oD21 18 (.bipush 16) 2 := by decide +kernel
theorem d7_20 : oQ oD21 20 (.newarray .int) 2 := by decide +kernel
theorem d7_22 : oQ oD21 22 (.putfield 19) 3 := by decide +kernel
theorem d7_25 : oQ oD21 25 (.aload_n 0) 1 := by decide +kernel
theorem d7_26 : oQ oD21 26 (.bipush 16) 2 := by decide +kernel
theorem d7_28 : oQ oD21 28 (.newarray .long) 2 := by decide +kernel
theorem d7_30 : oQ oD21 30 (.putfield 22) 3 := by decide +kernel
theorem d7_33 : oQ oD21 33 .return_ 1 := by decide +kernel
theorem pn_7 : plainName oC2 = true := by first | (simp [plainName, overriddenIn]; done) | decide +kernel
theorem ef_7 (m : MethodId) (r0 : Addr) (r1 : Addr) : entryFrame m #[(.ref r0), (.ref r1)] 2 = mkF m 0 #[oR r0, oR r1] [] := by first | (simp [entryFrame, mkF, argsToLocals, Value.category]; done) | rfl
def rm7_room : Room := { frames := 1, cells := 3, slots := 48, locals := 12 }
def Qrm7 (Z : State) (r0 : Addr) (r1 : Addr) (h0 : Heap) (n0 : Nat) (v : Option Value) (h : Heap) (L : List Loc) : Prop := ∃ b1 : Addr, ∃ b2 : Addr, ∃ b3 : Addr, v = none ∧ Fr n0 L ∧ Keep h0 h [r0] ∧ h0.size ≤ b1 ∧ h0.size ≤ b2 ∧ h0.size ≤ b3 ∧ Exa Z h r0 oC2 ∧ Fld Z h r0 oC2 "size" "I" (.int 0) ∧ Fld Z h r0 oC2 "senders" "[I" (.ref b1) ∧ Fld Z h r0 oC2 "receivers" "[I" (.ref b2) ∧ Fld Z h r0 oC2 "messages" "[J" (.ref b3) ∧ own_Arf Z h b1 .int (16 : Int32) (fun i => .int ((fun _ => (0 : Int32)) i)) ∧ own_Arf Z h b2 .int (16 : Int32) (fun i => .int ((fun _ => (0 : Int32)) i)) ∧ own_Arf Z h b3 .long (16 : Int32) (fun i => .long ((fun _ => (0 : Int64)) i)) ∧ b1 ≠ b2
set_option maxRecDepth 65536 in
set_option maxHeartbeats 40000000 in
theorem rm7 (l : Launch) (Z : State) (a0 : Array Value) (hw : oH Z a0) (ws : List Jvm.Cond) (r0 : Addr) (r1 : Addr) (h0 : Heap) (n0 : Nat) (Z0 : n0 ≤ h0.size) (E_r0_0 : Exa Z h0 r0 oC2) (F_size_r0_0 : Fld Z h0 r0 oC2 "size" "I" (.int 0)) (F_senders_r0_0 : Fld Z h0 r0 oC2 "senders" "[I" .null) (F_receivers_r0_0 : Fld Z h0 r0 oC2 "receivers" "[I" .null) (F_messages_r0_0 : Fld Z h0 r0 oC2 "messages" "[J" .null) (F_this_0_r0_0 : Fld Z h0 r0 oC2 "this$0" oC8 .null) (ge_r0 : n0 ≤ r0) :
    MetFree l oM21 (head1 (Jvm.Cond.code oM21 prog_19_method_1_code 2 none :: ws) rm7_room) (fun a U => a = #[(.ref r0), (.ref r1)] ∧ Z.Warmed39 U.vm ∧ U.heap = h0) (fun _ _ _ _ _ => True) (fun _ U o U' => ∃ v L, o = .returned v ∧ Qrm7 Z r0 r1 h0 n0 v U'.heap L ∧ FrameEnd U o U' L rm7_room.cells rm7_room.slots) := by
 refine MetFree.of_bodySF (plainFor_of_name pn_7) hisR ?_
 intro p e s m args below meth c s₁ Bd hml0 hP hK
 obtain ⟨rfl, hZ, hh⟩ := hP
 have hx := Bd.exec
 have hby := Bd.bytes
 have hml : c.maxLocals = 2 := hml0
 have hown : s.vm.findClass oC2 = some m.cls := findClass_of_methodNamed Bd.named
 have hnm := (name_of_methodNamed Bd.named Bd.method).1
 have hlk : meth.locks = false := BodyLoose.notSynchronized Bd
 have X0 : Stand p l e rm7_room s m #[(.ref r0), (.ref r1)] below meth c s₁ [] 0 0 := Stand.of_body Bd
 have e0 : s₁.heap = h0 := by rw [← hh, Bd.state]; rfl
 have N0 := Fr.nil n0
 show own_Fin p.tables e below s (Qrm7 Z r0 r1 h0 n0) rm7_room.cells rm7_room.slots (s₁.setTop (entryFrame m #[(.ref r0), (.ref r1)] 2))
 rw [ef_7]
 show oF (s₁.setTop (mkF m 0 #[oR r0, oR r1] []))
 have K0 := Keep.refl h0 [r0]
 refine own_go (fun _ k => XS.aloadN X0.here hx rfl (hb hby d7_0) rfl rfl (XS.aloadN X0.here hx rfl (hb hby d7_1) rfl rfl k)) ?_
 obtain ⟨T1, h1, X1, e1, W1, st1⟩ := putF X0 hx hZ hown (host := "") (Or.inl (oW hw 69 rfl)) Via.refl e0 F_this_0_r0_0 E_r0_0 (Or.inr ⟨(oW hw 70 rfl), rfl, hnm⟩) (oW hw 64 rfl) (ty := (.object oC0)) (by decide) rfl rfl (g := (mkF m 2 #[oR r0, oR r1] [(.ref r1), (.ref r0)])) rfl rfl (hb hby d7_2)
 have E_r0_1 := E_r0_0.wr W1
 have F_size_r0_1 := F_size_r0_0.other W1 (Or.inr (own_sn405 hw))
 have F_senders_r0_1 := F_senders_r0_0.other W1 (Or.inr (own_sn406 hw))
 have F_receivers_r0_1 := F_receivers_r0_0.other W1 (Or.inr (own_sn407 hw))
 have F_messages_r0_1 := F_messages_r0_0.other W1 (Or.inr (own_sn408 hw))
 have K1 := K0.wr W1 (Or.inl (List.mem_of_getElem? (i := 0) rfl))
 have N1 := Fr.snoc X1 N0 ge_r0
 have Z1 : n0 ≤ h1.size := Nat.le_trans Z0 (Keep.of_wr W1).1
 have F_this_0_r0_1 := F_this_0_r0_0.same W1
 refine own_go (fun tg k => st1 tg k) ?_
 refine own_go (fun _ k => XS.aloadN X1.here hx rfl (hb hby d7_5) rfl rfl k) ?_
 obtain ⟨T2, X2, e2, st2⟩ := initO X1 hx hZ hown (oW hw 71 rfl) (oW hw 16 rfl) (oW hw 17 rfl) e1 (g := (mkF m 6 #[oR r0, oR r1] [(.ref r0)])) rfl (by rw [hml]; rfl) rfl (hb hby d7_6) (by decide) (W := 0) (by show 2 * 0 + _ ≤ _; exact Nat.le_of_eq rfl) (by decide)
 refine own_go (fun tg k => st2 tg k) ?_
 show oF (T2.setTop (mkF m 9 #[oR r0, oR r1] []))
 refine own_go (fun _ k => XS.aloadN X2.here hx rfl (hb hby d7_9) rfl rfl (XS.bipush X2.here hx rfl (hb hby d7_10) k)) ?_
 obtain ⟨T3, h3, k3, X3, e3, E3, A3, st3⟩ := newP X2 hx hZ (oW hw 44 rfl) e2 (g := (mkF m 12 #[oR r0, oR r1] [(.int 16), (.ref r0)])) rfl (hb hby d7_12) rfl (by decide) (cap := 16) (by decide) (by decide) (by decide) (by decide)
 obtain ⟨b3, g3⟩ : ∃ z, z = h1.size := ⟨_, rfl⟩
 rw [← g3] at A3 st3
 have ne_r0_b3 : r0 ≠ b3 := Nat.ne_of_lt (Nat.lt_of_lt_of_le E_r0_1.lt (Nat.le_of_eq g3.symm))
 have ge_b3 : n0 ≤ b3 := Nat.le_trans Z1 (Nat.le_of_eq g3.symm)
 have sz_b3 : h0.size ≤ b3 := Nat.le_trans K1.1 (Nat.le_of_eq g3.symm)
 have E_r0_3 := E_r0_1.ext E3
 have F_size_r0_3 := F_size_r0_1.ext E3
 have F_senders_r0_3 := F_senders_r0_1.ext E3
 have F_receivers_r0_3 := F_receivers_r0_1.ext E3
 have F_messages_r0_3 := F_messages_r0_1.ext E3
 have F_this_0_r0_3 := F_this_0_r0_1.ext E3
 have K3 := K1.ext E3
 have Z3 : n0 ≤ h3.size := Nat.le_trans Z1 E3.1
 have A_b3_3 : own_Arf Z h3 b3 .int (16 : Int32) (fun i => .int ((fun _ => (0 : Int32)) i)) := own_Arf.new A3 (by decide)
 refine own_go (fun tg k => st3 tg k) ?_
 obtain ⟨T4, h4, X4, e4, W4, st4⟩ := putF X3 hx hZ hown (host := "") (Or.inl (oW hw 72 rfl)) Via.refl e3 F_senders_r0_3 E_r0_3 (Or.inl (oW hw 73 rfl)) (oW hw 64 rfl) (ty := (.array .int)) (by decide) rfl rfl (g := (mkF m 14 #[oR r0, oR r1] [(.ref b3), (.ref r0)])) rfl rfl (hb hby d7_14)
 have E_r0_4 := E_r0_3.wr W4
 have F_size_r0_4 := F_size_r0_3.other W4 (Or.inr (own_sn409 hw))
 have F_receivers_r0_4 := F_receivers_r0_3.other W4 (Or.inr (own_sn410 hw))
 have F_messages_r0_4 := F_messages_r0_3.other W4 (Or.inr (own_sn411 hw))
 have F_this_0_r0_4 := F_this_0_r0_3.other W4 (Or.inr (own_sn412 hw))
 have A_b3_4 := A_b3_3.other W4 (Ne.symm ne_r0_b3)
 have K4 := K3.wr W4 (Or.inl (List.mem_of_getElem? (i := 0) rfl))
 have N4 := Fr.snoc X4 N1 ge_r0
 have Z4 : n0 ≤ h4.size := Nat.le_trans Z3 (Keep.of_wr W4).1
 have F_senders_r0_4 := F_senders_r0_3.same W4
 refine own_go (fun tg k => st4 tg k) ?_
 refine own_go (fun _ k => XS.aloadN X4.here hx rfl (hb hby d7_17) rfl rfl (XS.bipush X4.here hx rfl (hb hby d7_18) k)) ?_
 obtain ⟨T5, h5, k5, X5, e5, E5, A5, st5⟩ := newP X4 hx hZ (oW hw 44 rfl) e4 (g := (mkF m 20 #[oR r0, oR r1] [(.int 16), (.ref r0)])) rfl (hb hby d7_20) rfl (by decide) (cap := 16) (by decide) (by decide) (by decide) (by decide)
 obtain ⟨b5, g5⟩ : ∃ z, z = h4.size := ⟨_, rfl⟩
 rw [← g5] at A5 st5
 have ne_r0_b5 : r0 ≠ b5 := Nat.ne_of_lt (Nat.lt_of_lt_of_le E_r0_4.lt (Nat.le_of_eq g5.symm))
 have ne_b3_b5 : b3 ≠ b5 := Nat.ne_of_lt (Nat.lt_of_lt_of_le A_b3_4.lt (Nat.le_of_eq g5.symm))
 have ge_b5 : n0 ≤ b5 := Nat.le_trans Z4 (Nat.le_of_eq g5.symm)
 have sz_b5 : h0.size ≤ b5 := Nat.le_trans K4.1 (Nat.le_of_eq g5.symm)
 have E_r0_5 := E_r0_4.ext E5
 have F_size_r0_5 := F_size_r0_4.ext E5
 have F_senders_r0_5 := F_senders_r0_4.ext E5
 have F_receivers_r0_5 := F_receivers_r0_4.ext E5
 have F_messages_r0_5 := F_messages_r0_4.ext E5
 have F_this_0_r0_5 := F_this_0_r0_4.ext E5
 have A_b3_5 := A_b3_4.ext E5
 have K5 := K4.ext E5
 have Z5 : n0 ≤ h5.size := Nat.le_trans Z4 E5.1
 have A_b5_5 : own_Arf Z h5 b5 .int (16 : Int32) (fun i => .int ((fun _ => (0 : Int32)) i)) := own_Arf.new A5 (by decide)
 refine own_go (fun tg k => st5 tg k) ?_
 obtain ⟨T6, h6, X6, e6, W6, st6⟩ := putF X5 hx hZ hown (host := "") (Or.inl (oW hw 74 rfl)) Via.refl e5 F_receivers_r0_5 E_r0_5 (Or.inl (oW hw 75 rfl)) (oW hw 64 rfl) (ty := (.array .int)) (by decide) rfl rfl (g := (mkF m 22 #[oR r0, oR r1] [(.ref b5), (.ref r0)])) rfl rfl (hb hby d7_22)
 have E_r0_6 := E_r0_5.wr W6
 have F_size_r0_6 := F_size_r0_5.other W6 (Or.inr (own_sn413 hw))
 have F_senders_r0_6 := F_senders_r0_5.other W6 (Or.inr (own_sn414 hw))
 have F_messages_r0_6 := F_messages_r0_5.other W6 (Or.inr (own_sn415 hw))
 have F_this_0_r0_6 := F_this_0_r0_5.other W6 (Or.inr (own_sn416 hw))
 have A_b3_6 := A_b3_5.other W6 (Ne.symm ne_r0_b3)
 have A_b5_6 := A_b5_5.other W6 (Ne.symm ne_r0_b5)
 have K6 := K5.wr W6 (Or.inl (List.mem_of_getElem? (i := 0) rfl))
 have N6 := Fr.snoc X6 N4 ge_r0
 have Z6 : n0 ≤ h6.size := Nat.le_trans Z5 (Keep.of_wr W6).1
 have F_receivers_r0_6 := F_receivers_r0_5.same W6
 refine own_go (fun tg k => st6 tg k) ?_
 refine own_go (fun _ k => XS.aloadN X6.here hx rfl (hb hby d7_25) rfl rfl (XS.bipush X6.here hx rfl (hb hby d7_26) k)) ?_
 obtain ⟨T7, h7, k7, X7, e7, E7, A7, st7⟩ := newP X6 hx hZ (oW hw 51 rfl) e6 (g := (mkF m 28 #[oR r0, oR r1] [(.int 16), (.ref r0)])) rfl (hb hby d7_28) rfl (by decide) (cap := 16) (by decide) (by decide) (by decide) (by decide)
 obtain ⟨b7, g7⟩ : ∃ z, z = h6.size := ⟨_, rfl⟩
 rw [← g7] at A7 st7
 have ne_r0_b7 : r0 ≠ b7 := Nat.ne_of_lt (Nat.lt_of_lt_of_le E_r0_6.lt (Nat.le_of_eq g7.symm))
 have ne_b3_b7 : b3 ≠ b7 := Nat.ne_of_lt (Nat.lt_of_lt_of_le A_b3_6.lt (Nat.le_of_eq g7.symm))
 have ne_b5_b7 : b5 ≠ b7 := Nat.ne_of_lt (Nat.lt_of_lt_of_le A_b5_6.lt (Nat.le_of_eq g7.symm))
 have ge_b7 : n0 ≤ b7 := Nat.le_trans Z6 (Nat.le_of_eq g7.symm)
 have sz_b7 : h0.size ≤ b7 := Nat.le_trans K6.1 (Nat.le_of_eq g7.symm)
 have E_r0_7 := E_r0_6.ext E7
 have F_size_r0_7 := F_size_r0_6.ext E7
 have F_senders_r0_7 := F_senders_r0_6.ext E7
 have F_receivers_r0_7 := F_receivers_r0_6.ext E7
 have F_messages_r0_7 := F_messages_r0_6.ext E7
 have F_this_0_r0_7 := F_this_0_r0_6.ext E7
 have A_b3_7 := A_b3_6.ext E7
 have A_b5_7 := A_b5_6.ext E7
 have K7 := K6.ext E7
 have Z7 : n0 ≤ h7.size := Nat.le_trans Z6 E7.1
 have A_b7_7 : own_Arf Z h7 b7 .long (16 : Int32) (fun i => .long ((fun _ => (0 : Int64)) i)) := own_Arf.new A7 (by decide)
 refine own_go (fun tg k => st7 tg k) ?_
 obtain ⟨T8, h8, X8, e8, W8, st8⟩ := putF X7 hx hZ hown (host := "") (Or.inl (oW hw 76 rfl)) Via.refl e7 F_messages_r0_7 E_r0_7 (Or.inl (oW hw 77 rfl)) (oW hw 64 rfl) (ty := (.array .long)) (by decide) rfl rfl (g := (mkF m 30 #[oR r0, oR r1] [(.ref b7), (.ref r0)])) rfl rfl (hb hby d7_30)
 have E_r0_8 := E_r0_7.wr W8
 have F_size_r0_8 := F_size_r0_7.other W8 (Or.inr (own_sn417 hw))
 have F_senders_r0_8 := F_senders_r0_7.other W8 (Or.inr (own_sn418 hw))
 have F_receivers_r0_8 := F_receivers_r0_7.other W8 (Or.inr (own_sn419 hw))
 have F_this_0_r0_8 := F_this_0_r0_7.other W8 (Or.inr (own_sn420 hw))
 have A_b3_8 := A_b3_7.other W8 (Ne.symm ne_r0_b3)
 have A_b5_8 := A_b5_7.other W8 (Ne.symm ne_r0_b5)
 have A_b7_8 := A_b7_7.other W8 (Ne.symm ne_r0_b7)
 have K8 := K7.wr W8 (Or.inl (List.mem_of_getElem? (i := 0) rfl))
 have N8 := Fr.snoc X8 N6 ge_r0
 have Z8 : n0 ≤ h8.size := Nat.le_trans Z7 (Keep.of_wr W8).1
 have F_messages_r0_8 := F_messages_r0_7.same W8
 refine own_go (fun tg k => st8 tg k) ?_
 refine own_retV X8 hx hlk Bd.returns (hb hby d7_33) (Nat.le_of_ble_eq_true rfl) (Nat.le_of_ble_eq_true rfl) ?_
 rw [e8]
 refine ⟨b3, b5, b7, rfl, N8, K8, sz_b3, sz_b5, sz_b7, E_r0_8, ?_, ?_, ?_, ?_, ?_, ?_, ?_, ne_b3_b5⟩
 · (exact F_size_r0_8)
 · (exact F_senders_r0_8)
 · (exact F_receivers_r0_8)
 · (exact F_messages_r0_8)
 · (exact A_b3_8)
 · (exact A_b5_8)
 · (exact A_b7_8)
theorem own_sn441 {Z : State} {a0 : Array Value} (hw : oH Z a0) : oO Z oC2 "senders" "[I" ≠ oO Z oC2 "size" "I" := slot_ne (Or.inl (oW hw 73 rfl)) (Or.inl (oW hw 85 rfl)) (by decide) (t := (.array .int)) (t' := .int) (by decide) (by decide)
theorem own_sn442 {Z : State} {a0 : Array Value} (hw : oH Z a0) : oO Z oC2 "receivers" "[I" ≠ oO Z oC2 "size" "I" := slot_ne (Or.inl (oW hw 75 rfl)) (Or.inl (oW hw 85 rfl)) (by decide) (t := (.array .int)) (t' := .int) (by decide) (by decide)
theorem own_sn443 {Z : State} {a0 : Array Value} (hw : oH Z a0) : oO Z oC2 "messages" "[J" ≠ oO Z oC2 "size" "I" := slot_ne (Or.inl (oW hw 77 rfl)) (Or.inl (oW hw 85 rfl)) (by decide) (t := (.array .long)) (t' := .int) (by decide) (by decide)
theorem d8_0 : oQ oD22 0 (.aload_n 0) 1 := by decide +kernel
theorem d8_1 : oQ oD22 1 (.getfield 26) 3 := by decide +kernel
theorem d8_4 : oQ oD22 4 (.aload_n 0) 1 := by decide +kernel
theorem d8_5 : oQ oD22 5 (.getfield 15) 3 := by decide +kernel
theorem d8_8 : oQ oD22 8 .arraylength 1 := by decide +kernel
theorem d8_9 : oQ oD22 9 (.if_icmp .ne 89) 3 := by decide +kernel
theorem d8_98 : oQ oD22 98 (.aload_n 0) 1 := by decide +kernel
theorem d8_99 : oQ oD22 99 (.getfield 15) 3 := by decide +kernel
theorem d8_102 : oQ oD22 102 (.aload_n 0) 1 := by decide +kernel
theorem d8_103 : oQ oD22 103 (.getfield 26) 3 := by decide +kernel
theorem d8_106 : oQ oD22 106 (.iload_n 1) 1 := by decide +kernel
theorem d8_107 : oQ oD22 107 .iastore 1 := by decide +kernel
theorem d8_108 : oQ oD22 108 (.aload_n 0) 1 := by decide +kernel
theorem d8_109 : oQ oD22 109 (.getfield 19) 3 := by decide +kernel
theorem d8_112 : oQ oD22 112 (.aload_n 0) 1 := by decide +kernel
theorem d8_113 : oQ oD22 113 (.getfield 26) 3 := by decide +kernel
theorem d8_116 : oQ oD22 116 (.iload_n 2) 1 := by decide +kernel
theorem d8_117 : oQ oD22 117 .iastore 1 := by decide +kernel
theorem d8_118 : oQ oD22 118 (.aload_n 0) 1 := by decide +kernel
theorem d8_119 : oQ oD22 119 (.getfield 22) 3 := by decide +kernel
theorem d8_122 : oQ oD22 122 (.aload_n 0) 1 := by decide +kernel
theorem d8_123 : oQ oD22 123 (.getfield 26) 3 := by decide +kernel
theorem d8_126 : oQ oD22 126 (.lload_n 3) 1 := by decide +kernel
theorem d8_127 : oQ oD22 127 .lastore 1 := by decide +kernel
theorem d8_128 : oQ oD22 128 (.aload_n 0) 1 := by decide +kernel
theorem d8_129 : oQ oD22 129 .dup 1 := by decide +kernel
theorem d8_130 : oQ oD22 130 (.getfield 26) 3 := by decide +kernel
theorem d8_133 : oQ oD22 133 (.iconst 1) 1 := by decide +kernel
theorem d8_134 : oQ oD22 134 .iadd 1 := by decide +kernel
theorem d8_135 : oQ oD22 135 (.putfield 26) 3 := by decide +kernel
theorem d8_138 : oQ oD22 138 .return_ 1 := by decide +kernel
theorem pn_8 : plainName oC2 = true := by first | (simp [plainName, overriddenIn]; done) | decide +kernel
theorem ef_8 (m : MethodId) (r0 : Addr) (p1 : Int32) (p2 : Int32) (q3 : Int64) : entryFrame m #[(.ref r0), (.int p1), (.int p2), (.long q3)] 6 = mkF m 0 #[oR r0, oI p1, oI p2, oJ q3, oS, oU] [] := by first | (simp [entryFrame, mkF, argsToLocals, Value.category]; done) | rfl
def rm8_room : Room := { frames := 0, cells := 0, slots := 0, locals := 0 }
def Qrm8 (Z : State) (r0 : Addr) (p1 : Int32) (p2 : Int32) (q3 : Int64) (z : Int32) (b1 : Addr) (b2 : Addr) (b3 : Addr) (k1 : Nat → Int32) (k2 : Nat → Int32) (k3 : Nat → Int64) (h0 : Heap) (n0 : Nat) (v : Option Value) (h : Heap) (L : List Loc) : Prop := v = none ∧ Fr n0 L ∧ Keep h0 h [r0, b1, b2, b3] ∧ Exa Z h r0 oC2 ∧ Fld Z h r0 oC2 "size" "I" (.int (z + (1 : Int32))) ∧ Fld Z h r0 oC2 "senders" "[I" (.ref b1) ∧ Fld Z h r0 oC2 "receivers" "[I" (.ref b2) ∧ Fld Z h r0 oC2 "messages" "[J" (.ref b3) ∧ own_Arf Z h b1 .int (16 : Int32) (fun i => .int ((own_set k1 z p1) i)) ∧ own_Arf Z h b2 .int (16 : Int32) (fun i => .int ((own_set k2 z p2) i)) ∧ own_Arf Z h b3 .long (16 : Int32) (fun i => .long ((own_set k3 z q3) i))
set_option maxRecDepth 65536 in
set_option maxHeartbeats 40000000 in
theorem rm8 (l : Launch) (Z : State) (a0 : Array Value) (hw : oH Z a0) (ws : List Jvm.Cond) (r0 : Addr) (p1 : Int32) (p2 : Int32) (q3 : Int64) (z : Int32) (b1 : Addr) (b2 : Addr) (b3 : Addr) (k1 : Nat → Int32) (k2 : Nat → Int32) (k3 : Nat → Int64) (h0 : Heap) (n0 : Nat) (Z0 : n0 ≤ h0.size) (E_r0_0 : Exa Z h0 r0 oC2) (F_size_r0_0 : Fld Z h0 r0 oC2 "size" "I" (.int z)) (F_senders_r0_0 : Fld Z h0 r0 oC2 "senders" "[I" (.ref b1)) (F_receivers_r0_0 : Fld Z h0 r0 oC2 "receivers" "[I" (.ref b2)) (F_messages_r0_0 : Fld Z h0 r0 oC2 "messages" "[J" (.ref b3)) (A_b1_0 : own_Arf Z h0 b1 .int (16 : Int32) (fun i => .int (k1 i))) (A_b2_0 : own_Arf Z h0 b2 .int (16 : Int32) (fun i => .int (k2 i))) (A_b3_0 : own_Arf Z h0 b3 .long (16 : Int32) (fun i => .long (k3 i))) (ge_r0 : n0 ≤ r0) (ge_b1 : n0 ≤ b1) (ge_b2 : n0 ≤ b2) (ge_b3 : n0 ≤ b3) (ne_b1_b2 : b1 ≠ b2) (hz : ¬ z < 0 ∧ z < (16 : Int32)) :
    MetFree l oM22 (head1 (Jvm.Cond.code oM22 prog_19_method_2_code 6 none :: ws) rm8_room) (fun a U => a = #[(.ref r0), (.int p1), (.int p2), (.long q3)] ∧ Z.Warmed39 U.vm ∧ U.heap = h0) (fun _ _ _ _ _ => True) (fun _ U o U' => ∃ v L, o = .returned v ∧ Qrm8 Z r0 p1 p2 q3 z b1 b2 b3 k1 k2 k3 h0 n0 v U'.heap L ∧ FrameEnd U o U' L rm8_room.cells rm8_room.slots) := by
 refine MetFree.of_bodySF (plainFor_of_name pn_8) hisR ?_
 intro p e s m args below meth c s₁ Bd hml0 hP hK
 obtain ⟨rfl, hZ, hh⟩ := hP
 have hx := Bd.exec
 have hby := Bd.bytes
 have hml : c.maxLocals = 6 := hml0
 have hown : s.vm.findClass oC2 = some m.cls := findClass_of_methodNamed Bd.named
 have hnm := (name_of_methodNamed Bd.named Bd.method).1
 have hlk : meth.locks = false := BodyLoose.notSynchronized Bd
 have X0 : Stand p l e rm8_room s m #[(.ref r0), (.int p1), (.int p2), (.long q3)] below meth c s₁ [] 0 0 := Stand.of_body Bd
 have e0 : s₁.heap = h0 := by rw [← hh, Bd.state]; rfl
 have N0 := Fr.nil n0
 show own_Fin p.tables e below s (Qrm8 Z r0 p1 p2 q3 z b1 b2 b3 k1 k2 k3 h0 n0) rm8_room.cells rm8_room.slots (s₁.setTop (entryFrame m #[(.ref r0), (.int p1), (.int p2), (.long q3)] 6))
 rw [ef_8]
 show oF (s₁.setTop (mkF m 0 #[oR r0, oI p1, oI p2, oJ q3, oS, oU] []))
 have K0 := Keep.refl h0 [r0, b1, b2, b3]
 refine own_go (fun _ k => XS.aloadN X0.here hx rfl (hb hby d8_0) rfl rfl k) ?_
 obtain ⟨T1, X1, e1, st1⟩ := getF X0 hx hZ hown (host := "") (Or.inl (oW hw 84 rfl)) Via.refl e0 F_size_r0_0 (g := (mkF m 1 #[oR r0, oI p1, oI p2, oJ q3, oS, oU] [(.ref r0)])) rfl rfl (hb hby d8_1)
 refine own_go (fun tg k => st1 tg k) ?_
 refine own_go (fun _ k => XS.aloadN X1.here hx rfl (hb hby d8_4) rfl rfl k) ?_
 obtain ⟨T2, X2, e2, st2⟩ := getF X1 hx hZ hown (host := "") (Or.inl (oW hw 72 rfl)) Via.refl e1 F_senders_r0_0 (g := (mkF m 5 #[oR r0, oI p1, oI p2, oJ q3, oS, oU] [(.ref r0), (.int z)])) rfl rfl (hb hby d8_5)
 refine own_go (fun tg k => st2 tg k) ?_
 refine own_go (fun tg k => own_alen X2 hx hZ e2 A_b1_0 (g := (mkF m 8 #[oR r0, oI p1, oI p2, oJ q3, oS, oU] [(.ref b1), (.int z)])) rfl rfl (hb hby d8_8) tg k) ?_
 have hc9 : ¬ (z = (16 : Int32)) := (own_ne16 hz.2)
 refine own_go (fun _ k => XS.icmpYes X2.here hx rfl (pc0 := 9) (pc' := 98) rfl (hb hby d8_9) rfl (feq hc9).2 (by decide) (by decide) (XS.aloadN X2.here hx rfl (hb hby d8_98) rfl rfl k)) ?_
 obtain ⟨T3, X3, e3, st3⟩ := getF X2 hx hZ hown (host := "") (Or.inl (oW hw 72 rfl)) Via.refl e2 F_senders_r0_0 (g := (mkF m 99 #[oR r0, oI p1, oI p2, oJ q3, oS, oU] [(.ref r0)])) rfl rfl (hb hby d8_99)
 refine own_go (fun tg k => st3 tg k) ?_
 refine own_go (fun _ k => XS.aloadN X3.here hx rfl (hb hby d8_102) rfl rfl k) ?_
 obtain ⟨T4, X4, e4, st4⟩ := getF X3 hx hZ hown (host := "") (Or.inl (oW hw 84 rfl)) Via.refl e3 F_size_r0_0 (g := (mkF m 103 #[oR r0, oI p1, oI p2, oJ q3, oS, oU] [(.ref r0), (.ref b1)])) rfl rfl (hb hby d8_103)
 refine own_go (fun tg k => st4 tg k) ?_
 refine own_go (fun _ k => XS.iloadN X4.here hx rfl (hb hby d8_106) rfl k) ?_
 obtain ⟨T5, h5, X5, e5, W5, A_b1_5, st5⟩ := own_stI X4 hx hZ e4 A_b1_0 (j := z) hz (g := (mkF m 107 #[oR r0, oI p1, oI p2, oJ q3, oS, oU] [(.int p1), (.int z), (.ref b1)])) rfl rfl (hb hby d8_107)
 have E_r0_5 := E_r0_0.wr W5
 have u5_r0 := (own_ne_arf E_r0_0 (oW hw 64 rfl) A_b1_0)
 have F_size_r0_5 := F_size_r0_0.other W5 (Or.inl u5_r0)
 have F_senders_r0_5 := F_senders_r0_0.other W5 (Or.inl u5_r0)
 have F_receivers_r0_5 := F_receivers_r0_0.other W5 (Or.inl u5_r0)
 have F_messages_r0_5 := F_messages_r0_0.other W5 (Or.inl u5_r0)
 have A_b2_5 := A_b2_0.other W5 (Ne.symm ne_b1_b2)
 have A_b3_5 := A_b3_0.other W5 (own_ne_ty A_b3_0 A_b1_0 (by decide))
 have K5 := K0.wr W5 (Or.inl (List.mem_of_getElem? (i := 1) rfl))
 have N5 := Fr.snoc X5 N0 ge_b1
 have Z5 : n0 ≤ h5.size := Nat.le_trans Z0 (Keep.of_wr W5).1
 refine own_go (fun tg k => st5 tg k) ?_
 refine own_go (fun _ k => XS.aloadN X5.here hx rfl (hb hby d8_108) rfl rfl k) ?_
 obtain ⟨T6, X6, e6, st6⟩ := getF X5 hx hZ hown (host := "") (Or.inl (oW hw 74 rfl)) Via.refl e5 F_receivers_r0_5 (g := (mkF m 109 #[oR r0, oI p1, oI p2, oJ q3, oS, oU] [(.ref r0)])) rfl rfl (hb hby d8_109)
 refine own_go (fun tg k => st6 tg k) ?_
 refine own_go (fun _ k => XS.aloadN X6.here hx rfl (hb hby d8_112) rfl rfl k) ?_
 obtain ⟨T7, X7, e7, st7⟩ := getF X6 hx hZ hown (host := "") (Or.inl (oW hw 84 rfl)) Via.refl e6 F_size_r0_5 (g := (mkF m 113 #[oR r0, oI p1, oI p2, oJ q3, oS, oU] [(.ref r0), (.ref b2)])) rfl rfl (hb hby d8_113)
 refine own_go (fun tg k => st7 tg k) ?_
 refine own_go (fun _ k => XS.iloadN X7.here hx rfl (hb hby d8_116) rfl k) ?_
 obtain ⟨T8, h8, X8, e8, W8, A_b2_8, st8⟩ := own_stI X7 hx hZ e7 A_b2_5 (j := z) hz (g := (mkF m 117 #[oR r0, oI p1, oI p2, oJ q3, oS, oU] [(.int p2), (.int z), (.ref b2)])) rfl rfl (hb hby d8_117)
 have E_r0_8 := E_r0_5.wr W8
 have u8_r0 := (own_ne_arf E_r0_5 (oW hw 64 rfl) A_b2_5)
 have F_size_r0_8 := F_size_r0_5.other W8 (Or.inl u8_r0)
 have F_senders_r0_8 := F_senders_r0_5.other W8 (Or.inl u8_r0)
 have F_receivers_r0_8 := F_receivers_r0_5.other W8 (Or.inl u8_r0)
 have F_messages_r0_8 := F_messages_r0_5.other W8 (Or.inl u8_r0)
 have A_b1_8 := A_b1_5.other W8 ne_b1_b2
 have A_b3_8 := A_b3_5.other W8 (own_ne_ty A_b3_5 A_b2_5 (by decide))
 have K8 := K5.wr W8 (Or.inl (List.mem_of_getElem? (i := 2) rfl))
 have N8 := Fr.snoc X8 N5 ge_b2
 have Z8 : n0 ≤ h8.size := Nat.le_trans Z5 (Keep.of_wr W8).1
 refine own_go (fun tg k => st8 tg k) ?_
 refine own_go (fun _ k => XS.aloadN X8.here hx rfl (hb hby d8_118) rfl rfl k) ?_
 obtain ⟨T9, X9, e9, st9⟩ := getF X8 hx hZ hown (host := "") (Or.inl (oW hw 76 rfl)) Via.refl e8 F_messages_r0_8 (g := (mkF m 119 #[oR r0, oI p1, oI p2, oJ q3, oS, oU] [(.ref r0)])) rfl rfl (hb hby d8_119)
 refine own_go (fun tg k => st9 tg k) ?_
 refine own_go (fun _ k => XS.aloadN X9.here hx rfl (hb hby d8_122) rfl rfl k) ?_
 obtain ⟨T10, X10, e10, st10⟩ := getF X9 hx hZ hown (host := "") (Or.inl (oW hw 84 rfl)) Via.refl e9 F_size_r0_8 (g := (mkF m 123 #[oR r0, oI p1, oI p2, oJ q3, oS, oU] [(.ref r0), (.ref b3)])) rfl rfl (hb hby d8_123)
 refine own_go (fun tg k => st10 tg k) ?_
 refine own_go (fun _ k => XS.lloadN X10.here hx rfl (hb hby d8_126) rfl k) ?_
 obtain ⟨T11, h11, X11, e11, W11, A_b3_11, st11⟩ := own_stJ X10 hx hZ e10 A_b3_8 (j := z) hz (g := (mkF m 127 #[oR r0, oI p1, oI p2, oJ q3, oS, oU] [(.long q3), (.int z), (.ref b3)])) rfl rfl (hb hby d8_127)
 have E_r0_11 := E_r0_8.wr W11
 have u11_r0 := (own_ne_arf E_r0_8 (oW hw 64 rfl) A_b3_8)
 have F_size_r0_11 := F_size_r0_8.other W11 (Or.inl u11_r0)
 have F_senders_r0_11 := F_senders_r0_8.other W11 (Or.inl u11_r0)
 have F_receivers_r0_11 := F_receivers_r0_8.other W11 (Or.inl u11_r0)
 have F_messages_r0_11 := F_messages_r0_8.other W11 (Or.inl u11_r0)
 have A_b1_11 := A_b1_8.other W11 (own_ne_ty A_b1_8 A_b3_8 (by decide))
 have A_b2_11 := A_b2_8.other W11 (own_ne_ty A_b2_8 A_b3_8 (by decide))
 have K11 := K8.wr W11 (Or.inl (List.mem_of_getElem? (i := 3) rfl))
 have N11 := Fr.snoc X11 N8 ge_b3
 have Z11 : n0 ≤ h11.size := Nat.le_trans Z8 (Keep.of_wr W11).1
 refine own_go (fun tg k => st11 tg k) ?_
 refine own_go (fun _ k => XS.aloadN X11.here hx rfl (hb hby d8_128) rfl rfl (XS.dup X11.here hx rfl (hb hby d8_129) rfl rfl k)) ?_
 obtain ⟨T12, X12, e12, st12⟩ := getF X11 hx hZ hown (host := "") (Or.inl (oW hw 84 rfl)) Via.refl e11 F_size_r0_11 (g := (mkF m 130 #[oR r0, oI p1, oI p2, oJ q3, oS, oU] [(.ref r0), (.ref r0)])) rfl rfl (hb hby d8_130)
 refine own_go (fun tg k => st12 tg k) ?_
 refine own_go (fun _ k => XS.iconst X12.here hx rfl (hb hby d8_133) (XS.iadd X12.here hx rfl (hb hby d8_134) rfl k)) ?_
 obtain ⟨T13, h13, X13, e13, W13, st13⟩ := putF X12 hx hZ hown (host := "") (Or.inl (oW hw 84 rfl)) Via.refl e12 F_size_r0_11 E_r0_11 (Or.inl (oW hw 85 rfl)) (oW hw 64 rfl) (ty := .int) (by decide) rfl rfl (g := (mkF m 135 #[oR r0, oI p1, oI p2, oJ q3, oS, oU] [(.int (z + (1 : Int32))), (.ref r0)])) rfl rfl (hb hby d8_135)
 have E_r0_13 := E_r0_11.wr W13
 have F_senders_r0_13 := F_senders_r0_11.other W13 (Or.inr (own_sn441 hw))
 have F_receivers_r0_13 := F_receivers_r0_11.other W13 (Or.inr (own_sn442 hw))
 have F_messages_r0_13 := F_messages_r0_11.other W13 (Or.inr (own_sn443 hw))
 have A_b1_13 := A_b1_11.other W13 (Ne.symm (own_ne_arf E_r0_11 (oW hw 64 rfl) A_b1_11))
 have A_b2_13 := A_b2_11.other W13 (Ne.symm (own_ne_arf E_r0_11 (oW hw 64 rfl) A_b2_11))
 have A_b3_13 := A_b3_11.other W13 (Ne.symm (own_ne_arf E_r0_11 (oW hw 64 rfl) A_b3_11))
 have K13 := K11.wr W13 (Or.inl (List.mem_of_getElem? (i := 0) rfl))
 have N13 := Fr.snoc X13 N11 ge_r0
 have Z13 : n0 ≤ h13.size := Nat.le_trans Z11 (Keep.of_wr W13).1
 have F_size_r0_13 := F_size_r0_11.same W13
 refine own_go (fun tg k => st13 tg k) ?_
 refine own_retV X13 hx hlk Bd.returns (hb hby d8_138) (Nat.le_of_ble_eq_true rfl) (Nat.le_of_ble_eq_true rfl) ?_
 rw [e13]
 refine ⟨rfl, N13, K13, E_r0_13, ?_, ?_, ?_, ?_, ?_, ?_, ?_⟩
 · (exact F_size_r0_13)
 · (exact F_senders_r0_13)
 · (exact F_receivers_r0_13)
 · (exact F_messages_r0_13)
 · (exact A_b1_13)
 · (exact A_b2_13)
 · (exact A_b3_13)
/-! the scan of the recipients: first and end -/
def own_scan : Nat → Int64 → Int32 → (Nat → Int32) → (Nat → Int32) → Int32 → (Nat → Int32) × (Nat → Int32)
  | 0, _, _, F, E, _ => (F, E)
  | k + 1, w, v, F, E, ps => if v < 0 then (F, E) else own_scan k w (own_nxt w (v + 1)) (own_set F v ps) (own_set E v (own_set F v ps v.toNatClampNeg)) (ps + E v.toNatClampNeg)
def own_wb (W : Int64) (n : Int32) : Prop := ∃ k : Nat, W = Int64.ofNat k ∧ k < 2 ^ n.toNatClampNeg ∧ k < 16
def own_SI (W : Int64) (F0 E0 : Nat → Int32) (n : Int32) (fu : Nat) (v ps : Int32) (fF eF : Nat → Int32) : Prop :=
  own_wb W n ∧ own_scan fu W v fF eF ps = own_scan 5 W (own_nxt W 0) F0 E0 0 ∧ (v < 0 ∨ (own_in v n ∧ own_n3 v ∧ 5 ≤ fu + v.toNatClampNeg))
theorem own_nxf : ∀ n : Fin 5, ∀ k : Fin 16, k.1 < 2 ^ n.1 → ∀ p : Fin 5, own_nxt (Int64.ofNat k.1) (Int32.ofNat p.1) < 0 ∨ (p.1 ≤ (own_nxt (Int64.ofNat k.1) (Int32.ofNat p.1)).toNatClampNeg ∧ ¬ own_nxt (Int64.ofNat k.1) (Int32.ofNat p.1) < 0 ∧ own_nxt (Int64.ofNat k.1) (Int32.ofNat p.1) < Int32.ofNat n.1) := by decide +kernel
theorem own_orf : ∀ k : Fin 16, ∀ r : Fin 4, Int64.ofNat k.1 ||| own_lshl (1 : Int64) (Int32.ofNat r.1) = Int64.ofNat (k.1 ||| 2 ^ r.1) ∧ k.1 ||| 2 ^ r.1 < 16 := by decide +kernel
section OwnH
variable {W : Int64} {F0 E0 fF eF E fi fL gg eL : Nat → Int32} {n v ps r i : Int32} {fu kS : Nat} {L L0 L1 : List Int32}
theorem own_n3n (h : own_n3 r) : ∃ k : Nat, k < 4 ∧ r = Int32.ofNat k ∧ r.toNatClampNeg = k := by
  rcases h with rfl | rfl | rfl | rfl
  · exact ⟨0, by decide, rfl, rfl⟩
  · exact ⟨1, by decide, rfl, rfl⟩
  · exact ⟨2, by decide, rfl, rfl⟩
  · exact ⟨3, by decide, rfl, rfl⟩
theorem own_inn (hn : own_n14 n) (h : own_in r n) : ∃ k : Nat, k < 4 ∧ r = Int32.ofNat k ∧ r.toNatClampNeg = k ∧ k < n.toNatClampNeg := by
  obtain ⟨k, h1, h2, h3⟩ := own_n3n (own_n3i hn h)
  refine ⟨k, h1, h2, h3, ?_⟩
  rw [← h3]
  have a := h.1
  have b := h.2
  rw [Int32.lt_iff_toInt_lt] at a b
  have k0 : (0 : Int32).toInt = 0 := by decide
  simp only [Int32.toNatClampNeg]; omega
theorem own_wor (hn : own_n14 n) (hm : ∀ r ∈ L, own_in r n) (hW : own_wb W n) : own_wb (own_or W L) n := by
  induction L generalizing W with
  | nil => exact hW
  | cons x xs ih =>
    obtain ⟨k, rfl, h1, h2⟩ := hW
    obtain ⟨j, j1, j2, j3, j4⟩ := own_inn hn (hm x (List.mem_cons_self ..))
    obtain ⟨e1, e2⟩ := own_orf ⟨k, h2⟩ ⟨j, j1⟩
    exact ih (fun r hr => hm r (List.mem_cons_of_mem _ hr)) ⟨k ||| 2 ^ j, by rw [j2]; exact e1, Nat.or_lt_two_pow h1 (Nat.pow_lt_pow_right (by decide) j4), e2⟩
theorem own_w2 (hn : own_n14 n) (hm : ∀ r ∈ L0 ++ L1, own_in r n) : own_wb (own_or (own_or 0 L0) L1) n :=
  own_wor hn (fun r hr => hm r (List.mem_append_right _ hr)) (own_wor hn (fun r hr => hm r (List.mem_append_left _ hr)) ⟨0, rfl, Nat.two_pow_pos _, by decide⟩)
theorem own_nx2 (hn : own_n14 n) (hW : own_wb W n) {p : Nat} (hp : p < 5) : own_nxt W (Int32.ofNat p) < 0 ∨ (p ≤ (own_nxt W (Int32.ofNat p)).toNatClampNeg ∧ own_in (own_nxt W (Int32.ofNat p)) n) := by
  obtain ⟨k, rfl, h1, h2⟩ := hW
  obtain ⟨m, hm, e, e'⟩ : ∃ m : Nat, m < 5 ∧ n = Int32.ofNat m ∧ n.toNatClampNeg = m := by
    rcases hn with rfl | rfl | rfl | rfl
    · exact ⟨1, by decide, rfl, rfl⟩
    · exact ⟨2, by decide, rfl, rfl⟩
    · exact ⟨3, by decide, rfl, rfl⟩
    · exact ⟨4, by decide, rfl, rfl⟩
  have q := own_nxf ⟨m, hm⟩ ⟨k, h2⟩ (by rw [e'] at h1; exact h1) ⟨p, hp⟩
  rw [e]; exact q
theorem own_SI0 (hn : own_n14 n) (hm : ∀ r ∈ L0 ++ L1, own_in r n) : own_SI (own_or (own_or 0 L0) L1) F0 E0 n 5 (own_nxt (own_or (own_or 0 L0) L1) 0) 0 F0 E0 := by
  refine ⟨own_w2 hn hm, rfl, ?_⟩
  rcases own_nx2 hn (own_w2 hn hm) (p := 0) (by decide) with h | ⟨h1, h2⟩
  · exact Or.inl h
  · exact Or.inr ⟨h2, own_n3i hn h2, by omega⟩
theorem own_SIb (hS : own_SI W F0 E0 n fu v ps fF eF) (hc : ¬ v < 0) : ¬ v < 0 ∧ v < n := (hS.2.2.resolve_left hc).1
theorem own_SIn (hS : own_SI W F0 E0 n fu v ps fF eF) (hc : ¬ v < 0) : own_n4 (v + 1) := by
  rcases (hS.2.2.resolve_left hc).2.1 with rfl | rfl | rfl | rfl
  · exact Or.inr (Or.inl rfl)
  · exact Or.inr (Or.inr (Or.inl rfl))
  · exact Or.inr (Or.inr (Or.inr (Or.inl rfl)))
  · exact Or.inr (Or.inr (Or.inr (Or.inr rfl)))
theorem own_SIf (hS : own_SI W F0 E0 n fu v ps fF eF) (hc : ¬ v < 0) : ∃ k, fu = k + 1 := by
  obtain ⟨-, h3, h5⟩ := hS.2.2.resolve_left hc
  obtain ⟨k, h1, h2, h4⟩ := own_n3n h3
  exact ⟨fu - 1, by omega⟩
theorem own_SIm (hS : own_SI W F0 E0 n fu v ps fF eF) (hc : ¬ v < 0) (hk : kS = fu) : fu - 1 < kS := by
  obtain ⟨k, h⟩ := own_SIf hS hc; omega
theorem own_SIs (hn : own_n14 n) (hm : ∀ r ∈ L0 ++ L1, own_in r n) (hS : own_SI W F0 E0 n fu v ps fF eF) (hc : ¬ v < 0) : own_SI W F0 E0 n (fu - 1) (own_nxt W (v + 1)) (ps + eF v.toNatClampNeg) (own_set fF v ps) (own_set eF v (own_set fF v ps v.toNatClampNeg)) := by
  obtain ⟨k, hk⟩ := own_SIf hS hc
  obtain ⟨hW, h2, h3⟩ := hS
  obtain ⟨-, h3, h5⟩ := h3.resolve_left hc
  obtain ⟨j, j1, j2, j3⟩ := own_n3n h3
  subst hk
  refine ⟨hW, ?_, ?_⟩
  · rw [← h2]; show own_scan k _ _ _ _ _ = _; rw [own_scan, if_neg hc]
  · have e : v + 1 = Int32.ofNat (j + 1) := by rw [j2, Int32.ofNat_add]; rfl
    rw [e]
    rcases own_nx2 hn hW (p := j + 1) (by omega) with h | ⟨q1, q2⟩
    · exact Or.inl h
    · exact Or.inr ⟨q2, own_n3i hn q2, by show 5 ≤ k + 1 - 1 + _; omega⟩
theorem own_SIx (hS : own_SI W F0 E0 n fu v ps fF eF) (hc : v < 0) : own_scan 5 W (own_nxt W 0) F0 E0 0 = (fF, eF) := by
  rw [← hS.2.1]
  cases fu with
  | zero => rfl
  | succ k => rw [own_scan, if_pos hc]
def own_R (L0 L1 : List Int32) : (Nat → Int32) × (Nat → Int32) := own_scan 5 (own_or (own_or 0 L0) L1) (own_nxt (own_or (own_or 0 L0) L1) 0) (fun _ => (0 : Int32)) (own_cnt (own_cnt (fun _ => (0 : Int32)) L0) L1) 0
def own_FF (L0 L1 : List Int32) : Nat → Int32 := (own_R L0 L1).1
def own_EE (L0 L1 : List Int32) : Nat → Int32 := own_cnt (own_cnt (own_R L0 L1).2 L0) L1
theorem own_FFx (hS : own_SI (own_or (own_or 0 L0) L1) (fun _ => (0 : Int32)) (own_cnt (own_cnt (fun _ => (0 : Int32)) L0) L1) n fu v ps fF eF) (hc : v < 0) : own_FF L0 L1 = fF := by
  unfold own_FF own_R; rw [own_SIx hS hc]
theorem own_EEx (hS : own_SI (own_or (own_or 0 L0) L1) (fun _ => (0 : Int32)) (own_cnt (own_cnt (fun _ => (0 : Int32)) L0) L1) n fu v ps fF eF) (hc : v < 0) : own_EE L0 L1 = own_cnt (own_cnt eF L0) L1 := by
  unfold own_EE own_R; rw [own_SIx hS hc]
theorem own_nx00 : own_nxt 0 0 < 0 := by decide +kernel
theorem own_R0 : own_R [] [] = ((fun _ => (0 : Int32)), (fun _ => (0 : Int32))) := by
  unfold own_R
  show own_scan 5 0 (own_nxt 0 0) _ _ 0 = _
  rw [own_scan, if_pos own_nx00]; rfl
theorem own_FF0 (hz : L0 ++ L1 = []) : own_FF L0 L1 = fun _ => (0 : Int32) := by
  obtain ⟨rfl, rfl⟩ := List.append_eq_nil_iff.mp hz
  unfold own_FF; rw [own_R0]
theorem own_EE0 (hz : L0 ++ L1 = []) : own_EE L0 L1 = fun _ => (0 : Int32) := by
  obtain ⟨rfl, rfl⟩ := List.append_eq_nil_iff.mp hz
  unfold own_EE; rw [own_R0]; rfl
/-! all that is asked of these functions, looked at for every pair of lists -/
def own_all : Nat → List (List Int32)
  | 0 => [[]]
  | k + 1 => (own_all k).flatMap fun l => [(0 : Int32), 1, 2, 3].map fun x => x :: l
def own_ck (M : List Int32) (e : Int32) : Bool := decide (¬ e < 0 ∧ e < Int32.ofNat M.length)
def own_fst (M : List Int32) (r : Int32) : Int32 := if r ∈ M then Int32.ofNat (M.filter (fun x => decide (x < r))).length else 0
def own_lst (M : List Int32) (r : Int32) : Int32 := if r ∈ M then Int32.ofNat (M.filter (fun x => decide (x ≤ r))).length else 0
def own_chk (L0 L1 : List Int32) : Bool :=
  (List.range L0.length).all (fun i => own_ck (L0 ++ L1) (own_cnt (own_R L0 L1).2 (L0.take i) (L0.getD i 0).toNatClampNeg)) &&
  (List.range L1.length).all (fun i => own_ck (L0 ++ L1) (own_cnt (own_cnt (own_R L0 L1).2 L0) (L1.take i) (L1.getD i 0).toNatClampNeg)) &&
  [(0 : Int32), 1, 2, 3].all (fun r => decide (own_FF L0 L1 r.toNatClampNeg = own_fst (L0 ++ L1) r ∧ own_EE L0 L1 r.toNatClampNeg = own_lst (L0 ++ L1) r))
set_option maxRecDepth 65536 in
theorem own_chkA : ((List.range 4).all fun a => (List.range (4 - a)).all fun b => (own_all a).all fun L0 => (own_all b).all fun L1 => own_chk L0 L1) = true := by decide +kernel
theorem own_allm (hm : ∀ r ∈ L, own_n3 r) : L ∈ own_all L.length := by
  induction L with
  | nil => exact List.mem_singleton.mpr rfl
  | cons x xs ih =>
    refine List.mem_flatMap.mpr ⟨xs, ih (fun r hr => hm r (List.mem_cons_of_mem _ hr)), List.mem_map.mpr ⟨x, ?_, rfl⟩⟩
    rcases hm x (List.mem_cons_self ..) with rfl | rfl | rfl | rfl <;> simp
theorem own_chkL (hl : L0.length + L1.length ≤ 3) (hm : ∀ r ∈ L0 ++ L1, own_n3 r) : own_chk L0 L1 = true := by
  have h := own_chkA
  have h1 := List.all_eq_true.mp h L0.length (List.mem_range.mpr (by omega))
  have h2 := List.all_eq_true.mp h1 L1.length (List.mem_range.mpr (by omega))
  have h3 := List.all_eq_true.mp h2 L0 (own_allm fun r hr => hm r (List.mem_append_left _ hr))
  exact List.all_eq_true.mp h3 L1 (own_allm fun r hr => hm r (List.mem_append_right _ hr))
theorem own_place (hl : L0.length + L1.length ≤ 3) {M : List Int32} {e : Int32} (h : own_ck (L0 ++ L1) e = true) : ¬ e < 0 ∧ e < (own_tot (own_tot 0 L0) L1).toInt32 := by
  rw [(own_ttl hl).2.1]; simpa [own_ck] using h
theorem own_place0 (hn : own_n14 n) (hl : L0.length + L1.length ≤ 3) (hm : ∀ r ∈ L0 ++ L1, own_in r n) (hS : own_SI (own_or (own_or 0 L0) L1) (fun _ => (0 : Int32)) (own_cnt (own_cnt (fun _ => (0 : Int32)) L0) L1) n fu v ps fF eF) (hc : v < 0)
    (h4 : L0.length ≤ 4) (hg : ∀ i, i < L0.length → gg i = L0.getD i 0) (hI : own_I3 eF L0 i eL) (hi : i < Int32.ofNat L0.length) : ¬ eL (gg i.toNatClampNeg).toNatClampNeg < 0 ∧ eL (gg i.toNatClampNeg).toNatClampNeg < (own_tot (own_tot 0 L0) L1).toInt32 := by
  have q := own_chkL hl fun r hr => own_n3i hn (hm r hr)
  simp only [own_chk, Bool.and_eq_true] at q
  obtain ⟨q1, -, -⟩ := own_ilt h4 hI.1.1 hi
  have r := List.all_eq_true.mp q.1.1 _ (List.mem_range.mpr q1)
  have e : (own_R L0 L1).2 = eF := by unfold own_R; rw [own_SIx hS hc]
  rw [e, ← hI.2, ← hg _ q1] at r
  exact own_place hl (M := []) r
theorem own_place1 (hn : own_n14 n) (hl : L0.length + L1.length ≤ 3) (hm : ∀ r ∈ L0 ++ L1, own_in r n) (hS : own_SI (own_or (own_or 0 L0) L1) (fun _ => (0 : Int32)) (own_cnt (own_cnt (fun _ => (0 : Int32)) L0) L1) n fu v ps fF eF) (hc : v < 0)
    (h4 : L1.length ≤ 4) (hg : ∀ i, i < L1.length → gg i = L1.getD i 0) (hI : own_I3 (own_cnt eF L0) L1 i eL) (hi : i < Int32.ofNat L1.length) : ¬ eL (gg i.toNatClampNeg).toNatClampNeg < 0 ∧ eL (gg i.toNatClampNeg).toNatClampNeg < (own_tot (own_tot 0 L0) L1).toInt32 := by
  have q := own_chkL hl fun r hr => own_n3i hn (hm r hr)
  simp only [own_chk, Bool.and_eq_true] at q
  obtain ⟨q1, -, -⟩ := own_ilt h4 hI.1.1 hi
  have r := List.all_eq_true.mp q.1.2 _ (List.mem_range.mpr q1)
  have e : (own_R L0 L1).2 = eF := by unfold own_R; rw [own_SIx hS hc]
  rw [e, ← hI.2, ← hg _ q1] at r
  exact own_place hl (M := []) r
theorem own_val (hn : own_n14 n) (hl : L0.length + L1.length ≤ 3) (hm : ∀ r ∈ L0 ++ L1, own_in r n) (hr : own_in r n) : own_FF L0 L1 r.toNatClampNeg = own_fst (L0 ++ L1) r ∧ own_EE L0 L1 r.toNatClampNeg = own_lst (L0 ++ L1) r := by
  have q := own_chkL hl fun r hr => own_n3i hn (hm r hr)
  simp only [own_chk, Bool.and_eq_true] at q
  have h := List.all_eq_true.mp q.2 r (by rcases own_n3i hn hr with rfl | rfl | rfl | rfl <;> simp)
  simpa using h
end OwnH
theorem own_be {n : Int32} (hn : own_n14 n) : own_f28 (0 : Int32) n = n := by rcases hn with rfl | rfl | rfl | rfl <;> decide +kernel
theorem own_bc1 {n : Int32} (hn : own_n14 n) : own_f3 n = 1 := by rcases hn with rfl | rfl | rfl | rfl <;> decide +kernel

theorem own_pd477 : parseMethodDescriptor "(Lcom/example/lockstep/lockstep/engine/AddressedMessages;)V" = some ⟨[(.object oC0)], none⟩ := by decide +kernel
theorem own_pd478 : parseMethodDescriptor "(IIJ)V" = some ⟨[.int, .int, .long], none⟩ := by decide +kernel
theorem d6_0 : oQ oD23 0 (.aload_n 0) 1 := by decide +kernel
theorem d6_1 : oQ oD23 1 (.getfield 21) 3 := by decide +kernel
theorem d6_4 : oQ oD23 4 (.iload_n 1) 1 := by decide +kernel
theorem d6_5 : oQ oD23 5 .aaload 1 := by decide +kernel
theorem d6_6 : oQ oD23 6 (.astore 6) 2 := by decide +kernel
theorem d6_8 : oQ oD23 8 (.aload 6) 2 := by decide +kernel
theorem d6_10 : oQ oD23 10 (.ifnonnull 21) 3 := by decide +kernel
theorem d6_13 : oQ oD23 13 (.new 19) 3 := by decide +kernel
theorem d6_16 : oQ oD23 16 .dup 1 := by decide +kernel
theorem d6_17 : oQ oD23 17 (.aload_n 0) 1 := by decide +kernel
theorem d6_18 : oQ oD23 18 (.invokespecial 40) 3 := by decide +kernel
theorem d6_21 : oQ oD23 21 (.astore 6) 2 := by decide +kernel
theorem d6_23 : oQ oD23 23 (.aload_n 0) 1 := by decide +kernel
theorem d6_24 : oQ oD23 24 (.getfield 21) 3 := by decide +kernel
theorem d6_27 : oQ oD23 27 (.iload_n 1) 1 := by decide +kernel
theorem d6_28 : oQ oD23 28 (.aload 6) 2 := by decide +kernel
theorem d6_30 : oQ oD23 30 .aastore 1 := by decide +kernel
theorem d6_31 : oQ oD23 31 (.aload 6) 2 := by decide +kernel
theorem d6_33 : oQ oD23 33 (.iload_n 2) 1 := by decide +kernel
theorem d6_34 : oQ oD23 34 (.iload_n 3) 1 := by decide +kernel
theorem d6_35 : oQ oD23 35 (.lload 4) 2 := by decide +kernel
theorem d6_37 : oQ oD23 37 (.invokevirtual 43) 3 := by decide +kernel
theorem d6_40 : oQ oD23 40 .return_ 1 := by decide +kernel
theorem pn_6 : plainName oC0 = true := by first | (simp [plainName, overriddenIn]; done) | decide +kernel
theorem ef_6 (m : MethodId) (r0 : Addr) (p1 : Int32) (p2 : Int32) (p3 : Int32) (q4 : Int64) : entryFrame m #[(.ref r0), (.int p1), (.int p2), (.int p3), (.long q4)] 7 = mkF m 0 #[oR r0, oI p1, oI p2, oI p3, oJ q4, oS, oU] [] := by first | (simp [entryFrame, mkF, argsToLocals, Value.category]; done) | rfl
def rm6_room : Room := { frames := 2, cells := 4, slots := 53, locals := 26 }
def Qrm6 (Z : State) (r0 : Addr) (p1 : Int32) (p2 : Int32) (p3 : Int32) (q4 : Int64) (ob : Addr) (v0 : Value) (v1 : Value) (Da : List Addr) (Db : List Addr) (La : List Int32) (Lb : List Int32) (h0 : Heap) (n0 : Nat) (v : Option Value) (h : Heap) (L : List Loc) : Prop := ∃ w0 : Value, ∃ w1 : Value, ∃ C0 : List Addr, ∃ C1 : List Addr, v = none ∧ Fr n0 L ∧ Keep h0 h (ob :: (Da ++ Db)) ∧ own_Oa Z h ob oC2 w0 w1 ∧ own_Box Z h n0 w0 C0 (own_psh p1 (0 : Int32) La p3) ∧ own_Box Z h n0 w1 C1 (own_psh p1 (1 : Int32) Lb p3) ∧ (∀ x ∈ C0, x ∈ Da ∨ h0.size ≤ x) ∧ (∀ x ∈ C1, x ∈ Db ∨ h0.size ≤ x) ∧ (∀ x ∈ C0, x ∉ C1)
set_option maxRecDepth 65536 in
set_option maxHeartbeats 40000000 in
theorem rm6 (l : Launch) (Z : State) (a0 : Array Value) (hw : oH Z a0) (ws : List Jvm.Cond) (r0 : Addr) (p1 : Int32) (p2 : Int32) (p3 : Int32) (q4 : Int64) (ob : Addr) (v0 : Value) (v1 : Value) (Da : List Addr) (Db : List Addr) (La : List Int32) (Lb : List Int32) (h0 : Heap) (n0 : Nat) (Z0 : n0 ≤ h0.size) (E_r0_0 : Exa Z h0 r0 oC0) (F_outboxes_r0_0 : Fld Z h0 r0 oC0 "outboxes" oC4 (.ref ob)) (O_ob_0 : own_Oa Z h0 ob oC2 v0 v1) (B_0_0 : own_Box Z h0 n0 v0 Da La) (B_1_0 : own_Box Z h0 n0 v1 Db Lb) (ge_ob : n0 ≤ ob) (nb_ob_0 : ob ∉ Da) (nb_ob_1 : ob ∉ Db) (hdj : ∀ x ∈ Da, x ∉ Db) (hbb : p1 = 0 ∨ p1 = 1) (hl : La.length + Lb.length ≤ 3) :
    MetFree l oM23 (head1 (Jvm.Cond.code oM23 prog_18_method_2_code 7 none :: ws) rm6_room) (fun a U => a = #[(.ref r0), (.int p1), (.int p2), (.int p3), (.long q4)] ∧ Z.Warmed39 U.vm ∧ U.heap = h0) (fun _ _ _ _ _ => True) (fun _ U o U' => ∃ v L, o = .returned v ∧ Qrm6 Z r0 p1 p2 p3 q4 ob v0 v1 Da Db La Lb h0 n0 v U'.heap L ∧ FrameEnd U o U' L rm6_room.cells rm6_room.slots) := by
 refine MetFree.of_bodySF (plainFor_of_name pn_6) hisR ?_
 intro p e s m args below meth c s₁ Bd hml0 hP hK
 obtain ⟨rfl, hZ, hh⟩ := hP
 have hx := Bd.exec
 have hby := Bd.bytes
 have hml : c.maxLocals = 7 := hml0
 have hown : s.vm.findClass oC0 = some m.cls := findClass_of_methodNamed Bd.named
 have hnm := (name_of_methodNamed Bd.named Bd.method).1
 have hlk : meth.locks = false := BodyLoose.notSynchronized Bd
 have X0 : Stand p l e rm6_room s m #[(.ref r0), (.int p1), (.int p2), (.int p3), (.long q4)] below meth c s₁ [] 0 0 := Stand.of_body Bd
 have e0 : s₁.heap = h0 := by rw [← hh, Bd.state]; rfl
 have N0 := Fr.nil n0
 show own_Fin p.tables e below s (Qrm6 Z r0 p1 p2 p3 q4 ob v0 v1 Da Db La Lb h0 n0) rm6_room.cells rm6_room.slots (s₁.setTop (entryFrame m #[(.ref r0), (.int p1), (.int p2), (.int p3), (.long q4)] 7))
 rw [ef_6]
 show oF (s₁.setTop (mkF m 0 #[oR r0, oI p1, oI p2, oI p3, oJ q4, oS, oU] []))
 have K0 := Keep.refl h0 (ob :: (Da ++ Db))
 have hdk : ∀ x ∈ Db, x ∉ Da := fun x h1 h0 => hdj x h0 h1
 by_cases hs1 : p1 = (0 : Int32)
 · try rw [hs1]
   show oF (s₁.setTop (mkF m 0 #[oR r0, oI 0, oI p2, oI p3, oJ q4, oS, oU] []))
   refine own_go (fun _ k => XS.aloadN X0.here hx rfl (hb hby d6_0) rfl rfl k) ?_
   obtain ⟨T2, X2, e2, st2⟩ := getF X0 hx hZ hown (host := "") (Or.inl (oW hw 24 rfl)) Via.refl e0 F_outboxes_r0_0 (g := (mkF m 1 #[oR r0, oI 0, oI p2, oI p3, oJ q4, oS, oU] [(.ref r0)])) rfl rfl (hb hby d6_1)
   refine own_go (fun tg k => st2 tg k) ?_
   refine own_go (fun _ k => XS.iloadN X2.here hx rfl (hb hby d6_4) rfl k) ?_
   refine own_go (fun tg k => own_oald X2 hx hZ e2 O_ob_0 (v := v0) (Or.inl ⟨rfl, rfl⟩) (g := (mkF m 5 #[oR r0, oI 0, oI p2, oI p3, oJ q4, oS, oU] [(.int 0), (.ref ob)])) rfl rfl (hb hby d6_5) tg k) ?_
   show oF (T2.setTop (mkF m 6 #[oR r0, oI 0, oI p2, oI p3, oJ q4, oS, oU] [v0]))
   obtain ⟨hl3, ⟨hv3, hD3, hL3⟩ | ⟨xa3, xb3, xc3, xd3, q13, gg3, q33, hv3, hD3, hB3, hg3⟩⟩ := id B_0_0
   · refine own_vr hv3 ?_
     show oF (T2.setTop (mkF m 6 #[oR r0, oI 0, oI p2, oI p3, oJ q4, oS, oU] [.null]))
     refine own_go (fun _ k => XS.astore X2.here hx rfl (hb hby d6_6) rfl rfl (l' := #[oR r0, oI 0, oI p2, oI p3, oJ q4, oS, .val .null]) rfl (XS.aload X2.here hx rfl (hb hby d6_8) rfl rfl (XS.ifnonnullNo X2.here hx rfl (hb hby d6_10) rfl k))) ?_
     obtain ⟨T4, h4, X4, e4, E4, A4, D4, -, st4⟩ := newO X2 hx hZ hown (oW hw 22 rfl) (oW hw 64 rfl) (oW hw 65 rfl) e2 (g := (mkF m 13 #[oR r0, oI 0, oI p2, oI p3, oJ q4, oS, .val .null] [])) rfl (hb hby d6_13) (by decide) (by decide)
     obtain ⟨b4, g4⟩ : ∃ z, z = h0.size := ⟨_, rfl⟩
     rw [← g4] at A4 D4 st4
     have ne_r0_b4 : r0 ≠ b4 := Nat.ne_of_lt (Nat.lt_of_lt_of_le E_r0_0.lt (Nat.le_of_eq g4.symm))
     have ne_ob_b4 : ob ≠ b4 := Nat.ne_of_lt (Nat.lt_of_lt_of_le O_ob_0.lt (Nat.le_of_eq g4.symm))
     have nb_b4_0 : b4 ∉ Da := B_0_0.nin (Nat.le_of_eq g4.symm)
     have nb_b4_1 : b4 ∉ Db := B_1_0.nin (Nat.le_of_eq g4.symm)
     have ge_b4 : n0 ≤ b4 := Nat.le_trans Z0 (Nat.le_of_eq g4.symm)
     have sz_b4 : h0.size ≤ b4 := Nat.le_trans K0.1 (Nat.le_of_eq g4.symm)
     have E_r0_4 := E_r0_0.ext E4
     have F_outboxes_r0_4 := F_outboxes_r0_0.ext E4
     have O_ob_4 := O_ob_0.ext E4
     have B_0_4 := B_0_0.ext E4
     have B_1_4 := B_1_0.ext E4
     have K4 := K0.ext E4
     have Z4 : n0 ≤ h4.size := Nat.le_trans Z0 E4.1
     have E_b4_4 : Exa Z h4 b4 oC2 := A4
     have F_this_0_b4_4 : Fld Z h4 b4 oC2 "this$0" oC8 .null := D4 (Or.inr (oW hw 70 rfl)) (ty := (.object oC0)) (by decide)
     have F_senders_b4_4 : Fld Z h4 b4 oC2 "senders" "[I" .null := D4 (Or.inl (oW hw 73 rfl)) (ty := (.array .int)) (by decide)
     have F_receivers_b4_4 : Fld Z h4 b4 oC2 "receivers" "[I" .null := D4 (Or.inl (oW hw 75 rfl)) (ty := (.array .int)) (by decide)
     have F_messages_b4_4 : Fld Z h4 b4 oC2 "messages" "[J" .null := D4 (Or.inl (oW hw 77 rfl)) (ty := (.array .long)) (by decide)
     have F_size_b4_4 : Fld Z h4 b4 oC2 "size" "I" (.int 0) := D4 (Or.inl (oW hw 85 rfl)) (ty := .int) (by decide)
     refine own_go (fun tg k => st4 tg k) ?_
     refine own_go (fun _ k => XS.dup X4.here hx rfl (hb hby d6_16) rfl rfl (XS.aloadN X4.here hx rfl (hb hby d6_17) rfl rfl k)) ?_
     obtain ⟨_, _, ⟨T5, L5, k5, n5⟩, -, X5, ⟨Lc5, hQ5, l5, y5, z5⟩, st5⟩ := own_specR X4 hx hZ (y := oM21) rfl hown (oW hw 66 rfl) (oW hw 67 rfl) (oW hw 68 rfl) (by decide) (backOf (W := 1) (rm7 l Z a0 hw [] b4 r0 h4 n0 Z4 E_b4_4 F_size_b4_4 F_senders_b4_4 F_receivers_b4_4 F_messages_b4_4 F_this_0_b4_4 ge_b4) hZ (oW hw 68 rfl) (oW hw 65 rfl) (by decide) (by decide)) (g := (mkF m 18 #[oR r0, oI 0, oI p2, oI p3, oJ q4, oS, .val .null] [(.ref r0), (.ref b4), (.ref b4)])) rfl (by rw [hml]; rfl) (a := b4) (argsL := [(.ref r0)]) (rest := [(.ref b4)]) (lenOf own_pd477 rfl) rfl (by show 2 * 0 + _ ≤ _; exact Nat.le_of_eq rfl) (hb hby d6_18) (fun _ _ => ⟨rfl, e4, (by decide : 1 + 3 ≤ _), (by decide : 5 + 48 ≤ _)⟩)
     dsimp only [Pt.U, Pt.locs, Pt.cells, Pt.slots] at X5 l5 y5 z5 st5 hQ5
     replace y5 : 4 = k5 := y5.symm
     replace z5 : 53 = n5 := z5.symm
     subst y5 z5
     obtain ⟨b5b1, b5b2, b5b3, rfl, N5q, Kq5, szq_b5b1, szq_b5b2, szq_b5b3, E_b4_5, F_size_b4_5, F_senders_b4_5, F_receivers_b4_5, F_messages_b4_5, A_b5b1_5, A_b5b2_5, A_b5b3_5, ne_b5b1_b5b2⟩ := hQ5
     have N5 : Fr n0 L5 := by rw [l5]; exact Fr.app N0 N5q
     have ne_r0_b5b1 : r0 ≠ b5b1 := Nat.ne_of_lt (Nat.lt_of_lt_of_le E_r0_4.lt szq_b5b1)
     have ne_ob_b5b1 : ob ≠ b5b1 := Nat.ne_of_lt (Nat.lt_of_lt_of_le O_ob_4.lt szq_b5b1)
     have ne_b4_b5b1 : b4 ≠ b5b1 := Nat.ne_of_lt (Nat.lt_of_lt_of_le E_b4_4.lt szq_b5b1)
     have nb_b5b1_0 : b5b1 ∉ Da := B_0_4.nin szq_b5b1
     have nb_b5b1_1 : b5b1 ∉ Db := B_1_4.nin szq_b5b1
     have ge_b5b1 : n0 ≤ b5b1 := Nat.le_trans Z4 szq_b5b1
     have sz_b5b1 : h0.size ≤ b5b1 := Nat.le_trans K4.1 szq_b5b1
     have ne_r0_b5b2 : r0 ≠ b5b2 := Nat.ne_of_lt (Nat.lt_of_lt_of_le E_r0_4.lt szq_b5b2)
     have ne_ob_b5b2 : ob ≠ b5b2 := Nat.ne_of_lt (Nat.lt_of_lt_of_le O_ob_4.lt szq_b5b2)
     have ne_b4_b5b2 : b4 ≠ b5b2 := Nat.ne_of_lt (Nat.lt_of_lt_of_le E_b4_4.lt szq_b5b2)
     have nb_b5b2_0 : b5b2 ∉ Da := B_0_4.nin szq_b5b2
     have nb_b5b2_1 : b5b2 ∉ Db := B_1_4.nin szq_b5b2
     have ge_b5b2 : n0 ≤ b5b2 := Nat.le_trans Z4 szq_b5b2
     have sz_b5b2 : h0.size ≤ b5b2 := Nat.le_trans K4.1 szq_b5b2
     have ne_r0_b5b3 : r0 ≠ b5b3 := Nat.ne_of_lt (Nat.lt_of_lt_of_le E_r0_4.lt szq_b5b3)
     have ne_ob_b5b3 : ob ≠ b5b3 := Nat.ne_of_lt (Nat.lt_of_lt_of_le O_ob_4.lt szq_b5b3)
     have ne_b4_b5b3 : b4 ≠ b5b3 := Nat.ne_of_lt (Nat.lt_of_lt_of_le E_b4_4.lt szq_b5b3)
     have nb_b5b3_0 : b5b3 ∉ Da := B_0_4.nin szq_b5b3
     have nb_b5b3_1 : b5b3 ∉ Db := B_1_4.nin szq_b5b3
     have ge_b5b3 : n0 ≤ b5b3 := Nat.le_trans Z4 szq_b5b3
     have sz_b5b3 : h0.size ≤ b5b3 := Nat.le_trans K4.1 szq_b5b3
     have E_r0_5 := E_r0_4.keep Kq5
     have F_outboxes_r0_5 := F_outboxes_r0_4.keep Kq5 (ninS ne_r0_b4 nin0)
     have O_ob_5 := O_ob_4.keep Kq5 (ninS ne_ob_b4 nin0)
     have B_0_5 := B_0_4.keep Kq5 (allS nb_b4_0 all0)
     have B_1_5 := B_1_4.keep Kq5 (allS nb_b4_1 all0)
     have K5 := Keep.trans K4 Kq5 (allS (Or.inr sz_b4) all0)
     have Z5 : n0 ≤ T5.heap.size := Nat.le_trans Z4 Kq5.1
     refine own_go (fun tg k => st5.trans k) ?_
     show oF (T5.setTop (mkF m 21 #[oR r0, oI 0, oI p2, oI p3, oJ q4, oS, .val .null] [(.ref b4)]))
     refine own_go (fun _ k => XS.astore X5.here hx rfl (hb hby d6_21) rfl rfl (l' := #[oR r0, oI 0, oI p2, oI p3, oJ q4, oS, oR b4]) rfl (XS.aloadN X5.here hx rfl (hb hby d6_23) rfl rfl k)) ?_
     obtain ⟨T6, X6, e6, st6⟩ := getF X5 hx hZ hown (host := "") (Or.inl (oW hw 24 rfl)) Via.refl rfl F_outboxes_r0_5 (g := (mkF m 24 #[oR r0, oI 0, oI p2, oI p3, oJ q4, oS, oR b4] [(.ref r0)])) rfl rfl (hb hby d6_24)
     refine own_go (fun tg k => st6 tg k) ?_
     refine own_go (fun _ k => XS.iloadN X6.here hx rfl (hb hby d6_27) rfl (XS.aload X6.here hx rfl (hb hby d6_28) rfl rfl k)) ?_
     obtain ⟨T7, h7, X7, e7, W7, O_ob_7, st7⟩ := own_oast X6 hx hZ e6 O_ob_5 E_b4_5 (j := (0 : Int32)) (Or.inl rfl) (g := (mkF m 30 #[oR r0, oI 0, oI p2, oI p3, oJ q4, oS, oR b4] [(.ref b4), (.int 0), (.ref ob)])) rfl rfl (hb hby d6_30)
     replace O_ob_7 : own_Oa Z h7 ob oC2 (.ref b4) v1 := O_ob_7
     have E_r0_7 := E_r0_5.wr W7
     have F_outboxes_r0_7 := F_outboxes_r0_5.other W7 (Or.inl (own_ne_oa E_r0_5 (oW hw 2 rfl) O_ob_5))
     have B_0_7 := B_0_5.other W7 nb_ob_0
     have B_1_7 := B_1_5.other W7 nb_ob_1
     have E_b4_7 := E_b4_5.wr W7
     have F_senders_b4_7 := F_senders_b4_5.other W7 (Or.inl (Ne.symm ne_ob_b4))
     have F_receivers_b4_7 := F_receivers_b4_5.other W7 (Or.inl (Ne.symm ne_ob_b4))
     have F_messages_b4_7 := F_messages_b4_5.other W7 (Or.inl (Ne.symm ne_ob_b4))
     have F_size_b4_7 := F_size_b4_5.other W7 (Or.inl (Ne.symm ne_ob_b4))
     have A_b5b1_7 := A_b5b1_5.other W7 (Ne.symm ne_ob_b5b1)
     have A_b5b2_7 := A_b5b2_5.other W7 (Ne.symm ne_ob_b5b2)
     have A_b5b3_7 := A_b5b3_5.other W7 (Ne.symm ne_ob_b5b3)
     have K7 := K5.wr W7 (Or.inl (List.mem_cons_self ..))
     have N7 := Fr.snoc X7 N5 ge_ob
     have Z7 : n0 ≤ h7.size := Nat.le_trans Z5 (Keep.of_wr W7).1
     refine own_go (fun tg k => st7 tg k) ?_
     show oF (T7.setTop (mkF m 31 #[oR r0, oI 0, oI p2, oI p3, oJ q4, oS, oR b4] []))
     refine own_go (fun _ k => XS.aload X7.here hx rfl (hb hby d6_31) rfl rfl k) ?_
     show oF (T7.setTop (mkF m 33 #[oR r0, oI 0, oI p2, oI p3, oJ q4, oS, oR b4] [(.ref b4)]))
     refine own_go (fun _ k => XS.iloadN X7.here hx rfl (hb hby d6_33) rfl (XS.iloadN X7.here hx rfl (hb hby d6_34) rfl (XS.lload X7.here hx rfl (hb hby d6_35) rfl k))) ?_
     obtain ⟨cq8, kq8, q8a, q8b, q8c⟩ := isOf hZ e7 E_b4_7
     obtain ⟨_, _, ⟨T8, L8, k8, n8⟩, -, X8, ⟨Lc8, hQ8, l8, y8, z8⟩, st8⟩ := X7.virtualBack hx (y := oM22) (z := oM22) hown (mvT hZ (oW hw 79 rfl)) (mvT hZ (oW hw 80 rfl)) (notFace_of_selects (args := #[]) (mvT hZ (oW hw 82 rfl))) (mvT hZ (oW hw 82 rfl)) (mvT hZ (oW hw 81 rfl)) (by decide) (backOf (W := 0) (rm8 l Z a0 hw [] b4 p2 p3 q4 (0 : Int32) b5b1 b5b2 b5b3 (fun _ => (0 : Int32)) (fun _ => (0 : Int32)) (fun _ => (0 : Int64)) h7 n0 Z7 E_b4_7 F_size_b4_7 F_senders_b4_7 F_receivers_b4_7 F_messages_b4_7 A_b5b1_7 A_b5b2_7 A_b5b3_7 ge_b4 ge_b5b1 ge_b5b2 ge_b5b3 ne_b5b1_b5b2 ⟨by decide, by decide⟩) hZ (oW hw 83 rfl) (oW hw 65 rfl) (by decide) (by decide)) q8a q8c (g := (mkF m 37 #[oR r0, oI 0, oI p2, oI p3, oJ q4, oS, oR b4] [(.long q4), (.int p3), (.int p2), (.ref b4)])) rfl (by rw [hml]; rfl) (Steps.refl _) (argsL := [(.int p2), (.int p3), (.long q4)]) (rest := []) (lenOf own_pd478 rfl) rfl (by show 2 * 0 + _ ≤ _; exact Nat.le_of_eq rfl) (hb hby d6_37) (fun _ _ => ⟨rfl, e7, (by decide : 4 + 0 ≤ _), (by decide : 53 + 0 ≤ _)⟩)
     dsimp only [Pt.U, Pt.locs, Pt.cells, Pt.slots] at X8 l8 y8 z8 st8 hQ8
     replace y8 : 4 = k8 := y8.symm
     replace z8 : 53 = n8 := z8.symm
     subst y8 z8
     obtain ⟨rfl, N8q, Kq8, E_b4_8, F_size_b4_8, F_senders_b4_8, F_receivers_b4_8, F_messages_b4_8, A_b5b1_8, A_b5b2_8, A_b5b3_8⟩ := hQ8
     have N8 : Fr n0 L8 := by rw [l8]; exact Fr.app N7 N8q
     have E_r0_8 := E_r0_7.keep Kq8
     have F_outboxes_r0_8 := F_outboxes_r0_7.keep Kq8 (ninS ne_r0_b4 (ninS ne_r0_b5b1 (ninS ne_r0_b5b2 (ninS ne_r0_b5b3 nin0))))
     have O_ob_8 := O_ob_7.keep Kq8 (ninS ne_ob_b4 (ninS ne_ob_b5b1 (ninS ne_ob_b5b2 (ninS ne_ob_b5b3 nin0))))
     have B_0_8 := B_0_7.keep Kq8 (allS nb_b4_0 (allS nb_b5b1_0 (allS nb_b5b2_0 (allS nb_b5b3_0 all0))))
     have B_1_8 := B_1_7.keep Kq8 (allS nb_b4_1 (allS nb_b5b1_1 (allS nb_b5b2_1 (allS nb_b5b3_1 all0))))
     have K8 := Keep.trans K7 Kq8 (allS (Or.inr sz_b4) (allS (Or.inr sz_b5b1) (allS (Or.inr sz_b5b2) (allS (Or.inr sz_b5b3) all0))))
     have Z8 : n0 ≤ T8.heap.size := Nat.le_trans Z7 Kq8.1
     refine own_go (fun tg k => st8.trans k) ?_
     show oF (T8.setTop (mkF m 40 #[oR r0, oI 0, oI p2, oI p3, oJ q4, oS, oR b4] []))
     refine own_retV X8 hx hlk Bd.returns (hb hby d6_40) (Nat.le_of_ble_eq_true rfl) (Nat.le_of_ble_eq_true rfl) ?_
     refine ⟨(.ref b4), v1, [b4, b5b1, b5b2, b5b3], Db, rfl, N8, K8, ?_, ?_, ?_, ?_, ?_, ?_⟩
     · first | (exact O_ob_8) | (simp only [if_pos hs1]; exact O_ob_8)
     · ( rw [own_psh, hL3]; (first | rw [if_pos hs1] | rw [if_pos rfl]); exact own_Box.mk (by simp) rfl (own_gp0 p3) ge_b4 ge_b5b1 ge_b5b2 ge_b5b3 ne_b5b1_b5b2 E_b4_8 F_size_b4_8 F_senders_b4_8 F_receivers_b4_8 F_messages_b4_8 A_b5b1_8 A_b5b2_8 A_b5b3_8)
     · ( rw [own_psh]; (first | rw [if_neg (by rw [hs1]; decide)] | rw [if_neg (by decide)]); exact B_1_8)
     · first | (exact own_all4 (Or.inr sz_b4) (Or.inr sz_b5b1) (Or.inr sz_b5b2) (Or.inr sz_b5b3)) | (simp only [if_pos hs1]; exact own_all4 (Or.inr sz_b4) (Or.inr sz_b5b1) (Or.inr sz_b5b2) (Or.inr sz_b5b3))
     · first | (exact fun x hx => Or.inl hx) | (simp only [if_pos hs1]; exact fun x hx => Or.inl hx)
     · first | (exact own_all4 nb_b4_1 nb_b5b1_1 nb_b5b2_1 nb_b5b3_1) | (simp only [if_pos hs1]; exact own_all4 nb_b4_1 nb_b5b1_1 nb_b5b2_1 nb_b5b3_1)
   · refine own_vr hv3 ?_
     show oF (T2.setTop (mkF m 6 #[oR r0, oI 0, oI p2, oI p3, oJ q4, oS, oU] [(.ref xa3)]))
     obtain ⟨⟨ge_xa3, ge_xb3, ge_xc3, ge_xd3, ne_xb3_xc3⟩, E_xa3_o, F_size_xa3_o, F_senders_xa3_o, F_receivers_xa3_o, F_messages_xa3_o, A_xb3_o, A_xc3_o, A_xd3_o⟩ := hB3
     refine own_go (fun _ k => XS.astore X2.here hx rfl (hb hby d6_6) rfl rfl (l' := #[oR r0, oI 0, oI p2, oI p3, oJ q4, oS, oR xa3]) rfl (XS.aload X2.here hx rfl (hb hby d6_8) rfl rfl (XS.ifnonnullYes X2.here hx rfl (pc0 := 10) (pc' := 31) rfl (hb hby d6_10) rfl (by decide) (by decide) (XS.aload X2.here hx rfl (hb hby d6_31) rfl rfl k)))) ?_
     show oF (T2.setTop (mkF m 33 #[oR r0, oI 0, oI p2, oI p3, oJ q4, oS, oR xa3] [(.ref xa3)]))
     refine own_go (fun _ k => XS.iloadN X2.here hx rfl (hb hby d6_33) rfl (XS.iloadN X2.here hx rfl (hb hby d6_34) rfl (XS.lload X2.here hx rfl (hb hby d6_35) rfl k))) ?_
     obtain ⟨cq9, kq9, q9a, q9b, q9c⟩ := isOf hZ e2 E_xa3_o
     obtain ⟨_, _, ⟨T9, L9, k9, n9⟩, -, X9, ⟨Lc9, hQ9, l9, y9, z9⟩, st9⟩ := X2.virtualBack hx (y := oM22) (z := oM22) hown (mvT hZ (oW hw 79 rfl)) (mvT hZ (oW hw 80 rfl)) (notFace_of_selects (args := #[]) (mvT hZ (oW hw 82 rfl))) (mvT hZ (oW hw 82 rfl)) (mvT hZ (oW hw 81 rfl)) (by decide) (backOf (W := 0) (rm8 l Z a0 hw [] xa3 p2 p3 q4 (Int32.ofNat La.length) xb3 xc3 xd3 q13 gg3 q33 h0 n0 Z0 E_xa3_o F_size_xa3_o F_senders_xa3_o F_receivers_xa3_o F_messages_xa3_o A_xb3_o A_xc3_o A_xd3_o ge_xa3 ge_xb3 ge_xc3 ge_xd3 ne_xb3_xc3 (own_szz (by omega))) hZ (oW hw 83 rfl) (oW hw 65 rfl) (by decide) (by decide)) q9a q9c (g := (mkF m 37 #[oR r0, oI 0, oI p2, oI p3, oJ q4, oS, oR xa3] [(.long q4), (.int p3), (.int p2), (.ref xa3)])) rfl (by rw [hml]; rfl) (Steps.refl _) (argsL := [(.int p2), (.int p3), (.long q4)]) (rest := []) (lenOf own_pd478 rfl) rfl (by show 2 * 0 + _ ≤ _; exact Nat.le_of_eq rfl) (hb hby d6_37) (fun _ _ => ⟨rfl, e2, (by decide : 0 + 0 ≤ _), (by decide : 0 + 0 ≤ _)⟩)
     dsimp only [Pt.U, Pt.locs, Pt.cells, Pt.slots] at X9 l9 y9 z9 st9 hQ9
     replace y9 : 0 = k9 := y9.symm
     replace z9 : 0 = n9 := z9.symm
     subst y9 z9
     obtain ⟨rfl, N9q, Kq9, E_xa3_9, F_size_xa3_9, F_senders_xa3_9, F_receivers_xa3_9, F_messages_xa3_9, A_xb3_9, A_xc3_9, A_xd3_9⟩ := hQ9
     have N9 : Fr n0 L9 := by rw [l9]; exact Fr.app N0 N9q
     have E_r0_9 := E_r0_0.keep Kq9
     have F_outboxes_r0_9 := F_outboxes_r0_0.keep Kq9 (ninS (ne_exa E_r0_0 E_xa3_o (by decide)) (ninS (own_ne_arf E_r0_0 (oW hw 2 rfl) A_xb3_o) (ninS (own_ne_arf E_r0_0 (oW hw 2 rfl) A_xc3_o) (ninS (own_ne_arf E_r0_0 (oW hw 2 rfl) A_xd3_o) nin0))))
     have O_ob_9 := O_ob_0.keep Kq9 (ninS (own_nx nb_ob_0 (i := 0) (by rw [hD3]; rfl)) (ninS (own_nx nb_ob_0 (i := 1) (by rw [hD3]; rfl)) (ninS (own_nx nb_ob_0 (i := 2) (by rw [hD3]; rfl)) (ninS (own_nx nb_ob_0 (i := 3) (by rw [hD3]; rfl)) nin0))))
     have B_1_9 := B_1_0.keep Kq9 (allS (hdj xa3 (by rw [hD3]; simp)) (allS (hdj xb3 (by rw [hD3]; simp)) (allS (hdj xc3 (by rw [hD3]; simp)) (allS (hdj xd3 (by rw [hD3]; simp)) all0))))
     have K9 := Keep.trans K0 Kq9 (allS (Or.inl (List.mem_cons_of_mem _ (List.mem_append_left _ (by rw [hD3]; exact List.mem_of_getElem? (i := 0) rfl)))) (allS (Or.inl (List.mem_cons_of_mem _ (List.mem_append_left _ (by rw [hD3]; exact List.mem_of_getElem? (i := 1) rfl)))) (allS (Or.inl (List.mem_cons_of_mem _ (List.mem_append_left _ (by rw [hD3]; exact List.mem_of_getElem? (i := 2) rfl)))) (allS (Or.inl (List.mem_cons_of_mem _ (List.mem_append_left _ (by rw [hD3]; exact List.mem_of_getElem? (i := 3) rfl)))) all0))))
     have Z9 : n0 ≤ T9.heap.size := Nat.le_trans Z0 Kq9.1
     refine own_go (fun tg k => st9.trans k) ?_
     show oF (T9.setTop (mkF m 40 #[oR r0, oI 0, oI p2, oI p3, oJ q4, oS, oR xa3] []))
     refine own_retV X9 hx hlk Bd.returns (hb hby d6_40) (Nat.le_of_ble_eq_true rfl) (Nat.le_of_ble_eq_true rfl) ?_
     refine ⟨v0, v1, [xa3, xb3, xc3, xd3], Db, rfl, N9, K9, ?_, ?_, ?_, ?_, ?_, ?_⟩
     · first | (exact O_ob_9) | (simp only [if_pos hs1]; exact O_ob_9)
     · ( rw [hv3, own_psh]; (first | rw [if_pos hs1] | rw [if_pos rfl]); exact own_Box.mk (by simp; omega) (own_szp _ _) (own_gps (by omega) hg3 p3) ge_xa3 ge_xb3 ge_xc3 ge_xd3 ne_xb3_xc3 E_xa3_9 F_size_xa3_9 F_senders_xa3_9 F_receivers_xa3_9 F_messages_xa3_9 A_xb3_9 A_xc3_9 A_xd3_9)
     · ( rw [own_psh]; (first | rw [if_neg (by rw [hs1]; decide)] | rw [if_neg (by decide)]); exact B_1_9)
     · first | (exact fun x hx => Or.inl (by rw [hD3]; exact hx)) | (simp only [if_pos hs1]; exact fun x hx => Or.inl (by rw [hD3]; exact hx))
     · first | (exact fun x hx => Or.inl hx) | (simp only [if_pos hs1]; exact fun x hx => Or.inl hx)
     · first | (exact fun x hx => hdj x (by rw [hD3]; exact hx)) | (simp only [if_pos hs1]; exact fun x hx => hdj x (by rw [hD3]; exact hx))
 · have hs10 : p1 = (1 : Int32) := (hbb.resolve_left hs1)
   try rw [hs10]
   show oF (s₁.setTop (mkF m 0 #[oR r0, oI 1, oI p2, oI p3, oJ q4, oS, oU] []))
   refine own_go (fun _ k => XS.aloadN X0.here hx rfl (hb hby d6_0) rfl rfl k) ?_
   obtain ⟨T11, X11, e11, st11⟩ := getF X0 hx hZ hown (host := "") (Or.inl (oW hw 24 rfl)) Via.refl e0 F_outboxes_r0_0 (g := (mkF m 1 #[oR r0, oI 1, oI p2, oI p3, oJ q4, oS, oU] [(.ref r0)])) rfl rfl (hb hby d6_1)
   refine own_go (fun tg k => st11 tg k) ?_
   refine own_go (fun _ k => XS.iloadN X11.here hx rfl (hb hby d6_4) rfl k) ?_
   refine own_go (fun tg k => own_oald X11 hx hZ e11 O_ob_0 (v := v1) (Or.inr ⟨rfl, rfl⟩) (g := (mkF m 5 #[oR r0, oI 1, oI p2, oI p3, oJ q4, oS, oU] [(.int 1), (.ref ob)])) rfl rfl (hb hby d6_5) tg k) ?_
   show oF (T11.setTop (mkF m 6 #[oR r0, oI 1, oI p2, oI p3, oJ q4, oS, oU] [v1]))
   obtain ⟨hl12, ⟨hv12, hD12, hL12⟩ | ⟨xa12, xb12, xc12, xd12, q112, gg12, q312, hv12, hD12, hB12, hg12⟩⟩ := id B_1_0
   · refine own_vr hv12 ?_
     show oF (T11.setTop (mkF m 6 #[oR r0, oI 1, oI p2, oI p3, oJ q4, oS, oU] [.null]))
     refine own_go (fun _ k => XS.astore X11.here hx rfl (hb hby d6_6) rfl rfl (l' := #[oR r0, oI 1, oI p2, oI p3, oJ q4, oS, .val .null]) rfl (XS.aload X11.here hx rfl (hb hby d6_8) rfl rfl (XS.ifnonnullNo X11.here hx rfl (hb hby d6_10) rfl k))) ?_
     obtain ⟨T13, h13, X13, e13, E13, A13, D13, -, st13⟩ := newO X11 hx hZ hown (oW hw 22 rfl) (oW hw 64 rfl) (oW hw 65 rfl) e11 (g := (mkF m 13 #[oR r0, oI 1, oI p2, oI p3, oJ q4, oS, .val .null] [])) rfl (hb hby d6_13) (by decide) (by decide)
     obtain ⟨b13, g13⟩ : ∃ z, z = h0.size := ⟨_, rfl⟩
     rw [← g13] at A13 D13 st13
     have ne_r0_b13 : r0 ≠ b13 := Nat.ne_of_lt (Nat.lt_of_lt_of_le E_r0_0.lt (Nat.le_of_eq g13.symm))
     have ne_ob_b13 : ob ≠ b13 := Nat.ne_of_lt (Nat.lt_of_lt_of_le O_ob_0.lt (Nat.le_of_eq g13.symm))
     have nb_b13_0 : b13 ∉ Da := B_0_0.nin (Nat.le_of_eq g13.symm)
     have nb_b13_1 : b13 ∉ Db := B_1_0.nin (Nat.le_of_eq g13.symm)
     have ge_b13 : n0 ≤ b13 := Nat.le_trans Z0 (Nat.le_of_eq g13.symm)
     have sz_b13 : h0.size ≤ b13 := Nat.le_trans K0.1 (Nat.le_of_eq g13.symm)
     have E_r0_13 := E_r0_0.ext E13
     have F_outboxes_r0_13 := F_outboxes_r0_0.ext E13
     have O_ob_13 := O_ob_0.ext E13
     have B_0_13 := B_0_0.ext E13
     have B_1_13 := B_1_0.ext E13
     have K13 := K0.ext E13
     have Z13 : n0 ≤ h13.size := Nat.le_trans Z0 E13.1
     have E_b13_13 : Exa Z h13 b13 oC2 := A13
     have F_this_0_b13_13 : Fld Z h13 b13 oC2 "this$0" oC8 .null := D13 (Or.inr (oW hw 70 rfl)) (ty := (.object oC0)) (by decide)
     have F_senders_b13_13 : Fld Z h13 b13 oC2 "senders" "[I" .null := D13 (Or.inl (oW hw 73 rfl)) (ty := (.array .int)) (by decide)
     have F_receivers_b13_13 : Fld Z h13 b13 oC2 "receivers" "[I" .null := D13 (Or.inl (oW hw 75 rfl)) (ty := (.array .int)) (by decide)
     have F_messages_b13_13 : Fld Z h13 b13 oC2 "messages" "[J" .null := D13 (Or.inl (oW hw 77 rfl)) (ty := (.array .long)) (by decide)
     have F_size_b13_13 : Fld Z h13 b13 oC2 "size" "I" (.int 0) := D13 (Or.inl (oW hw 85 rfl)) (ty := .int) (by decide)
     refine own_go (fun tg k => st13 tg k) ?_
     refine own_go (fun _ k => XS.dup X13.here hx rfl (hb hby d6_16) rfl rfl (XS.aloadN X13.here hx rfl (hb hby d6_17) rfl rfl k)) ?_
     obtain ⟨_, _, ⟨T14, L14, k14, n14⟩, -, X14, ⟨Lc14, hQ14, l14, y14, z14⟩, st14⟩ := own_specR X13 hx hZ (y := oM21) rfl hown (oW hw 66 rfl) (oW hw 67 rfl) (oW hw 68 rfl) (by decide) (backOf (W := 1) (rm7 l Z a0 hw [] b13 r0 h13 n0 Z13 E_b13_13 F_size_b13_13 F_senders_b13_13 F_receivers_b13_13 F_messages_b13_13 F_this_0_b13_13 ge_b13) hZ (oW hw 68 rfl) (oW hw 65 rfl) (by decide) (by decide)) (g := (mkF m 18 #[oR r0, oI 1, oI p2, oI p3, oJ q4, oS, .val .null] [(.ref r0), (.ref b13), (.ref b13)])) rfl (by rw [hml]; rfl) (a := b13) (argsL := [(.ref r0)]) (rest := [(.ref b13)]) (lenOf own_pd477 rfl) rfl (by show 2 * 0 + _ ≤ _; exact Nat.le_of_eq rfl) (hb hby d6_18) (fun _ _ => ⟨rfl, e13, (by decide : 1 + 3 ≤ _), (by decide : 5 + 48 ≤ _)⟩)
     dsimp only [Pt.U, Pt.locs, Pt.cells, Pt.slots] at X14 l14 y14 z14 st14 hQ14
     replace y14 : 4 = k14 := y14.symm
     replace z14 : 53 = n14 := z14.symm
     subst y14 z14
     obtain ⟨b14b1, b14b2, b14b3, rfl, N14q, Kq14, szq_b14b1, szq_b14b2, szq_b14b3, E_b13_14, F_size_b13_14, F_senders_b13_14, F_receivers_b13_14, F_messages_b13_14, A_b14b1_14, A_b14b2_14, A_b14b3_14, ne_b14b1_b14b2⟩ := hQ14
     have N14 : Fr n0 L14 := by rw [l14]; exact Fr.app N0 N14q
     have ne_r0_b14b1 : r0 ≠ b14b1 := Nat.ne_of_lt (Nat.lt_of_lt_of_le E_r0_13.lt szq_b14b1)
     have ne_ob_b14b1 : ob ≠ b14b1 := Nat.ne_of_lt (Nat.lt_of_lt_of_le O_ob_13.lt szq_b14b1)
     have ne_b13_b14b1 : b13 ≠ b14b1 := Nat.ne_of_lt (Nat.lt_of_lt_of_le E_b13_13.lt szq_b14b1)
     have nb_b14b1_0 : b14b1 ∉ Da := B_0_13.nin szq_b14b1
     have nb_b14b1_1 : b14b1 ∉ Db := B_1_13.nin szq_b14b1
     have ge_b14b1 : n0 ≤ b14b1 := Nat.le_trans Z13 szq_b14b1
     have sz_b14b1 : h0.size ≤ b14b1 := Nat.le_trans K13.1 szq_b14b1
     have ne_r0_b14b2 : r0 ≠ b14b2 := Nat.ne_of_lt (Nat.lt_of_lt_of_le E_r0_13.lt szq_b14b2)
     have ne_ob_b14b2 : ob ≠ b14b2 := Nat.ne_of_lt (Nat.lt_of_lt_of_le O_ob_13.lt szq_b14b2)
     have ne_b13_b14b2 : b13 ≠ b14b2 := Nat.ne_of_lt (Nat.lt_of_lt_of_le E_b13_13.lt szq_b14b2)
     have nb_b14b2_0 : b14b2 ∉ Da := B_0_13.nin szq_b14b2
     have nb_b14b2_1 : b14b2 ∉ Db := B_1_13.nin szq_b14b2
     have ge_b14b2 : n0 ≤ b14b2 := Nat.le_trans Z13 szq_b14b2
     have sz_b14b2 : h0.size ≤ b14b2 := Nat.le_trans K13.1 szq_b14b2
     have ne_r0_b14b3 : r0 ≠ b14b3 := Nat.ne_of_lt (Nat.lt_of_lt_of_le E_r0_13.lt szq_b14b3)
     have ne_ob_b14b3 : ob ≠ b14b3 := Nat.ne_of_lt (Nat.lt_of_lt_of_le O_ob_13.lt szq_b14b3)
     have ne_b13_b14b3 : b13 ≠ b14b3 := Nat.ne_of_lt (Nat.lt_of_lt_of_le E_b13_13.lt szq_b14b3)
     have nb_b14b3_0 : b14b3 ∉ Da := B_0_13.nin szq_b14b3
     have nb_b14b3_1 : b14b3 ∉ Db := B_1_13.nin szq_b14b3
     have ge_b14b3 : n0 ≤ b14b3 := Nat.le_trans Z13 szq_b14b3
     have sz_b14b3 : h0.size ≤ b14b3 := Nat.le_trans K13.1 szq_b14b3
     have E_r0_14 := E_r0_13.keep Kq14
     have F_outboxes_r0_14 := F_outboxes_r0_13.keep Kq14 (ninS ne_r0_b13 nin0)
     have O_ob_14 := O_ob_13.keep Kq14 (ninS ne_ob_b13 nin0)
     have B_0_14 := B_0_13.keep Kq14 (allS nb_b13_0 all0)
     have B_1_14 := B_1_13.keep Kq14 (allS nb_b13_1 all0)
     have K14 := Keep.trans K13 Kq14 (allS (Or.inr sz_b13) all0)
     have Z14 : n0 ≤ T14.heap.size := Nat.le_trans Z13 Kq14.1
     refine own_go (fun tg k => st14.trans k) ?_
     show oF (T14.setTop (mkF m 21 #[oR r0, oI 1, oI p2, oI p3, oJ q4, oS, .val .null] [(.ref b13)]))
     refine own_go (fun _ k => XS.astore X14.here hx rfl (hb hby d6_21) rfl rfl (l' := #[oR r0, oI 1, oI p2, oI p3, oJ q4, oS, oR b13]) rfl (XS.aloadN X14.here hx rfl (hb hby d6_23) rfl rfl k)) ?_
     obtain ⟨T15, X15, e15, st15⟩ := getF X14 hx hZ hown (host := "") (Or.inl (oW hw 24 rfl)) Via.refl rfl F_outboxes_r0_14 (g := (mkF m 24 #[oR r0, oI 1, oI p2, oI p3, oJ q4, oS, oR b13] [(.ref r0)])) rfl rfl (hb hby d6_24)
     refine own_go (fun tg k => st15 tg k) ?_
     refine own_go (fun _ k => XS.iloadN X15.here hx rfl (hb hby d6_27) rfl (XS.aload X15.here hx rfl (hb hby d6_28) rfl rfl k)) ?_
     obtain ⟨T16, h16, X16, e16, W16, O_ob_16, st16⟩ := own_oast X15 hx hZ e15 O_ob_14 E_b13_14 (j := (1 : Int32)) (Or.inr rfl) (g := (mkF m 30 #[oR r0, oI 1, oI p2, oI p3, oJ q4, oS, oR b13] [(.ref b13), (.int 1), (.ref ob)])) rfl rfl (hb hby d6_30)
     replace O_ob_16 : own_Oa Z h16 ob oC2 v0 (.ref b13) := O_ob_16
     have E_r0_16 := E_r0_14.wr W16
     have F_outboxes_r0_16 := F_outboxes_r0_14.other W16 (Or.inl (own_ne_oa E_r0_14 (oW hw 2 rfl) O_ob_14))
     have B_0_16 := B_0_14.other W16 nb_ob_0
     have B_1_16 := B_1_14.other W16 nb_ob_1
     have E_b13_16 := E_b13_14.wr W16
     have F_senders_b13_16 := F_senders_b13_14.other W16 (Or.inl (Ne.symm ne_ob_b13))
     have F_receivers_b13_16 := F_receivers_b13_14.other W16 (Or.inl (Ne.symm ne_ob_b13))
     have F_messages_b13_16 := F_messages_b13_14.other W16 (Or.inl (Ne.symm ne_ob_b13))
     have F_size_b13_16 := F_size_b13_14.other W16 (Or.inl (Ne.symm ne_ob_b13))
     have A_b14b1_16 := A_b14b1_14.other W16 (Ne.symm ne_ob_b14b1)
     have A_b14b2_16 := A_b14b2_14.other W16 (Ne.symm ne_ob_b14b2)
     have A_b14b3_16 := A_b14b3_14.other W16 (Ne.symm ne_ob_b14b3)
     have K16 := K14.wr W16 (Or.inl (List.mem_cons_self ..))
     have N16 := Fr.snoc X16 N14 ge_ob
     have Z16 : n0 ≤ h16.size := Nat.le_trans Z14 (Keep.of_wr W16).1
     refine own_go (fun tg k => st16 tg k) ?_
     show oF (T16.setTop (mkF m 31 #[oR r0, oI 1, oI p2, oI p3, oJ q4, oS, oR b13] []))
     refine own_go (fun _ k => XS.aload X16.here hx rfl (hb hby d6_31) rfl rfl k) ?_
     show oF (T16.setTop (mkF m 33 #[oR r0, oI 1, oI p2, oI p3, oJ q4, oS, oR b13] [(.ref b13)]))
     refine own_go (fun _ k => XS.iloadN X16.here hx rfl (hb hby d6_33) rfl (XS.iloadN X16.here hx rfl (hb hby d6_34) rfl (XS.lload X16.here hx rfl (hb hby d6_35) rfl k))) ?_
     obtain ⟨cq17, kq17, q17a, q17b, q17c⟩ := isOf hZ e16 E_b13_16
     obtain ⟨_, _, ⟨T17, L17, k17, n17⟩, -, X17, ⟨Lc17, hQ17, l17, y17, z17⟩, st17⟩ := X16.virtualBack hx (y := oM22) (z := oM22) hown (mvT hZ (oW hw 79 rfl)) (mvT hZ (oW hw 80 rfl)) (notFace_of_selects (args := #[]) (mvT hZ (oW hw 82 rfl))) (mvT hZ (oW hw 82 rfl)) (mvT hZ (oW hw 81 rfl)) (by decide) (backOf (W := 0) (rm8 l Z a0 hw [] b13 p2 p3 q4 (0 : Int32) b14b1 b14b2 b14b3 (fun _ => (0 : Int32)) (fun _ => (0 : Int32)) (fun _ => (0 : Int64)) h16 n0 Z16 E_b13_16 F_size_b13_16 F_senders_b13_16 F_receivers_b13_16 F_messages_b13_16 A_b14b1_16 A_b14b2_16 A_b14b3_16 ge_b13 ge_b14b1 ge_b14b2 ge_b14b3 ne_b14b1_b14b2 ⟨by decide, by decide⟩) hZ (oW hw 83 rfl) (oW hw 65 rfl) (by decide) (by decide)) q17a q17c (g := (mkF m 37 #[oR r0, oI 1, oI p2, oI p3, oJ q4, oS, oR b13] [(.long q4), (.int p3), (.int p2), (.ref b13)])) rfl (by rw [hml]; rfl) (Steps.refl _) (argsL := [(.int p2), (.int p3), (.long q4)]) (rest := []) (lenOf own_pd478 rfl) rfl (by show 2 * 0 + _ ≤ _; exact Nat.le_of_eq rfl) (hb hby d6_37) (fun _ _ => ⟨rfl, e16, (by decide : 4 + 0 ≤ _), (by decide : 53 + 0 ≤ _)⟩)
     dsimp only [Pt.U, Pt.locs, Pt.cells, Pt.slots] at X17 l17 y17 z17 st17 hQ17
     replace y17 : 4 = k17 := y17.symm
     replace z17 : 53 = n17 := z17.symm
     subst y17 z17
     obtain ⟨rfl, N17q, Kq17, E_b13_17, F_size_b13_17, F_senders_b13_17, F_receivers_b13_17, F_messages_b13_17, A_b14b1_17, A_b14b2_17, A_b14b3_17⟩ := hQ17
     have N17 : Fr n0 L17 := by rw [l17]; exact Fr.app N16 N17q
     have E_r0_17 := E_r0_16.keep Kq17
     have F_outboxes_r0_17 := F_outboxes_r0_16.keep Kq17 (ninS ne_r0_b13 (ninS ne_r0_b14b1 (ninS ne_r0_b14b2 (ninS ne_r0_b14b3 nin0))))
     have O_ob_17 := O_ob_16.keep Kq17 (ninS ne_ob_b13 (ninS ne_ob_b14b1 (ninS ne_ob_b14b2 (ninS ne_ob_b14b3 nin0))))
     have B_0_17 := B_0_16.keep Kq17 (allS nb_b13_0 (allS nb_b14b1_0 (allS nb_b14b2_0 (allS nb_b14b3_0 all0))))
     have B_1_17 := B_1_16.keep Kq17 (allS nb_b13_1 (allS nb_b14b1_1 (allS nb_b14b2_1 (allS nb_b14b3_1 all0))))
     have K17 := Keep.trans K16 Kq17 (allS (Or.inr sz_b13) (allS (Or.inr sz_b14b1) (allS (Or.inr sz_b14b2) (allS (Or.inr sz_b14b3) all0))))
     have Z17 : n0 ≤ T17.heap.size := Nat.le_trans Z16 Kq17.1
     refine own_go (fun tg k => st17.trans k) ?_
     show oF (T17.setTop (mkF m 40 #[oR r0, oI 1, oI p2, oI p3, oJ q4, oS, oR b13] []))
     refine own_retV X17 hx hlk Bd.returns (hb hby d6_40) (Nat.le_of_ble_eq_true rfl) (Nat.le_of_ble_eq_true rfl) ?_
     refine ⟨v0, (.ref b13), Da, [b13, b14b1, b14b2, b14b3], rfl, N17, K17, ?_, ?_, ?_, ?_, ?_, ?_⟩
     · first | (exact O_ob_17) | (simp only [if_neg hs1]; exact O_ob_17)
     · ( rw [own_psh]; (first | rw [if_neg hs1] | rw [if_neg (by decide)]); exact B_0_17)
     · ( rw [own_psh, hL12]; (first | rw [if_pos hs10] | rw [if_pos rfl]); exact own_Box.mk (by simp) rfl (own_gp0 p3) ge_b13 ge_b14b1 ge_b14b2 ge_b14b3 ne_b14b1_b14b2 E_b13_17 F_size_b13_17 F_senders_b13_17 F_receivers_b13_17 F_messages_b13_17 A_b14b1_17 A_b14b2_17 A_b14b3_17)
     · first | (exact fun x hx => Or.inl hx) | (simp only [if_neg hs1]; exact fun x hx => Or.inl hx)
     · first | (exact own_all4 (Or.inr sz_b13) (Or.inr sz_b14b1) (Or.inr sz_b14b2) (Or.inr sz_b14b3)) | (simp only [if_neg hs1]; exact own_all4 (Or.inr sz_b13) (Or.inr sz_b14b1) (Or.inr sz_b14b2) (Or.inr sz_b14b3))
     · first | (exact fun x hx hc => (own_all4 (P := fun y => y ∉ Da) nb_b13_0 nb_b14b1_0 nb_b14b2_0 nb_b14b3_0) x hc hx) | (simp only [if_neg hs1]; exact fun x hx hc => (own_all4 (P := fun y => y ∉ Da) nb_b13_0 nb_b14b1_0 nb_b14b2_0 nb_b14b3_0) x hc hx)
   · refine own_vr hv12 ?_
     show oF (T11.setTop (mkF m 6 #[oR r0, oI 1, oI p2, oI p3, oJ q4, oS, oU] [(.ref xa12)]))
     obtain ⟨⟨ge_xa12, ge_xb12, ge_xc12, ge_xd12, ne_xb12_xc12⟩, E_xa12_o, F_size_xa12_o, F_senders_xa12_o, F_receivers_xa12_o, F_messages_xa12_o, A_xb12_o, A_xc12_o, A_xd12_o⟩ := hB12
     refine own_go (fun _ k => XS.astore X11.here hx rfl (hb hby d6_6) rfl rfl (l' := #[oR r0, oI 1, oI p2, oI p3, oJ q4, oS, oR xa12]) rfl (XS.aload X11.here hx rfl (hb hby d6_8) rfl rfl (XS.ifnonnullYes X11.here hx rfl (pc0 := 10) (pc' := 31) rfl (hb hby d6_10) rfl (by decide) (by decide) (XS.aload X11.here hx rfl (hb hby d6_31) rfl rfl k)))) ?_
     show oF (T11.setTop (mkF m 33 #[oR r0, oI 1, oI p2, oI p3, oJ q4, oS, oR xa12] [(.ref xa12)]))
     refine own_go (fun _ k => XS.iloadN X11.here hx rfl (hb hby d6_33) rfl (XS.iloadN X11.here hx rfl (hb hby d6_34) rfl (XS.lload X11.here hx rfl (hb hby d6_35) rfl k))) ?_
     obtain ⟨cq18, kq18, q18a, q18b, q18c⟩ := isOf hZ e11 E_xa12_o
     obtain ⟨_, _, ⟨T18, L18, k18, n18⟩, -, X18, ⟨Lc18, hQ18, l18, y18, z18⟩, st18⟩ := X11.virtualBack hx (y := oM22) (z := oM22) hown (mvT hZ (oW hw 79 rfl)) (mvT hZ (oW hw 80 rfl)) (notFace_of_selects (args := #[]) (mvT hZ (oW hw 82 rfl))) (mvT hZ (oW hw 82 rfl)) (mvT hZ (oW hw 81 rfl)) (by decide) (backOf (W := 0) (rm8 l Z a0 hw [] xa12 p2 p3 q4 (Int32.ofNat Lb.length) xb12 xc12 xd12 q112 gg12 q312 h0 n0 Z0 E_xa12_o F_size_xa12_o F_senders_xa12_o F_receivers_xa12_o F_messages_xa12_o A_xb12_o A_xc12_o A_xd12_o ge_xa12 ge_xb12 ge_xc12 ge_xd12 ne_xb12_xc12 (own_szz (by omega))) hZ (oW hw 83 rfl) (oW hw 65 rfl) (by decide) (by decide)) q18a q18c (g := (mkF m 37 #[oR r0, oI 1, oI p2, oI p3, oJ q4, oS, oR xa12] [(.long q4), (.int p3), (.int p2), (.ref xa12)])) rfl (by rw [hml]; rfl) (Steps.refl _) (argsL := [(.int p2), (.int p3), (.long q4)]) (rest := []) (lenOf own_pd478 rfl) rfl (by show 2 * 0 + _ ≤ _; exact Nat.le_of_eq rfl) (hb hby d6_37) (fun _ _ => ⟨rfl, e11, (by decide : 0 + 0 ≤ _), (by decide : 0 + 0 ≤ _)⟩)
     dsimp only [Pt.U, Pt.locs, Pt.cells, Pt.slots] at X18 l18 y18 z18 st18 hQ18
     replace y18 : 0 = k18 := y18.symm
     replace z18 : 0 = n18 := z18.symm
     subst y18 z18
     obtain ⟨rfl, N18q, Kq18, E_xa12_18, F_size_xa12_18, F_senders_xa12_18, F_receivers_xa12_18, F_messages_xa12_18, A_xb12_18, A_xc12_18, A_xd12_18⟩ := hQ18
     have N18 : Fr n0 L18 := by rw [l18]; exact Fr.app N0 N18q
     have E_r0_18 := E_r0_0.keep Kq18
     have F_outboxes_r0_18 := F_outboxes_r0_0.keep Kq18 (ninS (ne_exa E_r0_0 E_xa12_o (by decide)) (ninS (own_ne_arf E_r0_0 (oW hw 2 rfl) A_xb12_o) (ninS (own_ne_arf E_r0_0 (oW hw 2 rfl) A_xc12_o) (ninS (own_ne_arf E_r0_0 (oW hw 2 rfl) A_xd12_o) nin0))))
     have O_ob_18 := O_ob_0.keep Kq18 (ninS (own_nx nb_ob_1 (i := 0) (by rw [hD12]; rfl)) (ninS (own_nx nb_ob_1 (i := 1) (by rw [hD12]; rfl)) (ninS (own_nx nb_ob_1 (i := 2) (by rw [hD12]; rfl)) (ninS (own_nx nb_ob_1 (i := 3) (by rw [hD12]; rfl)) nin0))))
     have B_0_18 := B_0_0.keep Kq18 (allS (hdk xa12 (by rw [hD12]; simp)) (allS (hdk xb12 (by rw [hD12]; simp)) (allS (hdk xc12 (by rw [hD12]; simp)) (allS (hdk xd12 (by rw [hD12]; simp)) all0))))
     have K18 := Keep.trans K0 Kq18 (allS (Or.inl (List.mem_cons_of_mem _ (List.mem_append_right _ (by rw [hD12]; exact List.mem_of_getElem? (i := 0) rfl)))) (allS (Or.inl (List.mem_cons_of_mem _ (List.mem_append_right _ (by rw [hD12]; exact List.mem_of_getElem? (i := 1) rfl)))) (allS (Or.inl (List.mem_cons_of_mem _ (List.mem_append_right _ (by rw [hD12]; exact List.mem_of_getElem? (i := 2) rfl)))) (allS (Or.inl (List.mem_cons_of_mem _ (List.mem_append_right _ (by rw [hD12]; exact List.mem_of_getElem? (i := 3) rfl)))) all0))))
     have Z18 : n0 ≤ T18.heap.size := Nat.le_trans Z0 Kq18.1
     refine own_go (fun tg k => st18.trans k) ?_
     show oF (T18.setTop (mkF m 40 #[oR r0, oI 1, oI p2, oI p3, oJ q4, oS, oR xa12] []))
     refine own_retV X18 hx hlk Bd.returns (hb hby d6_40) (Nat.le_of_ble_eq_true rfl) (Nat.le_of_ble_eq_true rfl) ?_
     refine ⟨v0, v1, Da, [xa12, xb12, xc12, xd12], rfl, N18, K18, ?_, ?_, ?_, ?_, ?_, ?_⟩
     · first | (exact O_ob_18) | (simp only [if_neg hs1]; exact O_ob_18)
     · ( rw [own_psh]; (first | rw [if_neg hs1] | rw [if_neg (by decide)]); exact B_0_18)
     · ( rw [hv12, own_psh]; (first | rw [if_pos hs10] | rw [if_pos rfl]); exact own_Box.mk (by simp; omega) (own_szp _ _) (own_gps (by omega) hg12 p3) ge_xa12 ge_xb12 ge_xc12 ge_xd12 ne_xb12_xc12 E_xa12_18 F_size_xa12_18 F_senders_xa12_18 F_receivers_xa12_18 F_messages_xa12_18 A_xb12_18 A_xc12_18 A_xd12_18)
     · first | (exact fun x hx => Or.inl hx) | (simp only [if_neg hs1]; exact fun x hx => Or.inl hx)
     · first | (exact fun x hx => Or.inl (by rw [hD12]; exact hx)) | (simp only [if_neg hs1]; exact fun x hx => Or.inl (by rw [hD12]; exact hx))
     · first | (exact fun x hx => hD12 ▸ hdj x hx) | (simp only [if_neg hs1]; exact fun x hx => hD12 ▸ hdj x hx)
theorem own_pd504 : parseMethodDescriptor "(II)I" = some ⟨[.int, .int], some .int⟩ := by decide +kernel
theorem own_sn505 {Z : State} {a0 : Array Value} (hw : oH Z a0) : oO Z oC0 "receivers" "I" ≠ oO Z oC0 "senders" "[I" := slot_ne (Or.inr (oW hw 19 rfl)) (Or.inl (oW hw 118 rfl)) (by decide) (t := .int) (t' := (.array .int)) (by decide) (by decide)
theorem own_sn506 {Z : State} {a0 : Array Value} (hw : oH Z a0) : oO Z oC0 "outboxes" oC4 ≠ oO Z oC0 "senders" "[I" := slot_ne (Or.inr (oW hw 25 rfl)) (Or.inl (oW hw 118 rfl)) (by decide) (t := (.array (.object oC2))) (t' := (.array .int)) (by decide) (by decide)
theorem own_sn507 {Z : State} {a0 : Array Value} (hw : oH Z a0) : oO Z oC0 "recipients" oC6 ≠ oO Z oC0 "senders" "[I" := slot_ne (Or.inr (oW hw 58 rfl)) (Or.inl (oW hw 118 rfl)) (by decide) (t := (.object oC1)) (t' := (.array .int)) (by decide) (by decide)
theorem own_sn508 {Z : State} {a0 : Array Value} (hw : oH Z a0) : oO Z oC0 "delivered" "I" ≠ oO Z oC0 "senders" "[I" := slot_ne (Or.inl (oW hw 116 rfl)) (Or.inl (oW hw 118 rfl)) (by decide) (t := .int) (t' := (.array .int)) (by decide) (by decide)
theorem own_sn509 {Z : State} {a0 : Array Value} (hw : oH Z a0) : oO Z oC0 "messages" "[J" ≠ oO Z oC0 "senders" "[I" := slot_ne (Or.inl (oW hw 120 rfl)) (Or.inl (oW hw 118 rfl)) (by decide) (t := (.array .long)) (t' := (.array .int)) (by decide) (by decide)
theorem own_sn510 {Z : State} {a0 : Array Value} (hw : oH Z a0) : oO Z oC0 "first" "[I" ≠ oO Z oC0 "senders" "[I" := slot_ne (Or.inl (oW hw 122 rfl)) (Or.inl (oW hw 118 rfl)) (by decide) (t := (.array .int)) (t' := (.array .int)) (by decide) (by decide)
theorem own_sn511 {Z : State} {a0 : Array Value} (hw : oH Z a0) : oO Z oC0 "end" "[I" ≠ oO Z oC0 "senders" "[I" := slot_ne (Or.inl (oW hw 124 rfl)) (Or.inl (oW hw 118 rfl)) (by decide) (t := (.array .int)) (t' := (.array .int)) (by decide) (by decide)
theorem own_sn512 {Z : State} {a0 : Array Value} (hw : oH Z a0) : oO Z oC0 "receivers" "I" ≠ oO Z oC0 "messages" "[J" := slot_ne (Or.inr (oW hw 19 rfl)) (Or.inl (oW hw 120 rfl)) (by decide) (t := .int) (t' := (.array .long)) (by decide) (by decide)
theorem own_sn513 {Z : State} {a0 : Array Value} (hw : oH Z a0) : oO Z oC0 "outboxes" oC4 ≠ oO Z oC0 "messages" "[J" := slot_ne (Or.inr (oW hw 25 rfl)) (Or.inl (oW hw 120 rfl)) (by decide) (t := (.array (.object oC2))) (t' := (.array .long)) (by decide) (by decide)
theorem own_sn514 {Z : State} {a0 : Array Value} (hw : oH Z a0) : oO Z oC0 "recipients" oC6 ≠ oO Z oC0 "messages" "[J" := slot_ne (Or.inr (oW hw 58 rfl)) (Or.inl (oW hw 120 rfl)) (by decide) (t := (.object oC1)) (t' := (.array .long)) (by decide) (by decide)
theorem own_sn515 {Z : State} {a0 : Array Value} (hw : oH Z a0) : oO Z oC0 "delivered" "I" ≠ oO Z oC0 "messages" "[J" := slot_ne (Or.inl (oW hw 116 rfl)) (Or.inl (oW hw 120 rfl)) (by decide) (t := .int) (t' := (.array .long)) (by decide) (by decide)
theorem own_sn516 {Z : State} {a0 : Array Value} (hw : oH Z a0) : oO Z oC0 "senders" "[I" ≠ oO Z oC0 "messages" "[J" := slot_ne (Or.inl (oW hw 118 rfl)) (Or.inl (oW hw 120 rfl)) (by decide) (t := (.array .int)) (t' := (.array .long)) (by decide) (by decide)
theorem own_sn517 {Z : State} {a0 : Array Value} (hw : oH Z a0) : oO Z oC0 "first" "[I" ≠ oO Z oC0 "messages" "[J" := slot_ne (Or.inl (oW hw 122 rfl)) (Or.inl (oW hw 120 rfl)) (by decide) (t := (.array .int)) (t' := (.array .long)) (by decide) (by decide)
theorem own_sn518 {Z : State} {a0 : Array Value} (hw : oH Z a0) : oO Z oC0 "end" "[I" ≠ oO Z oC0 "messages" "[J" := slot_ne (Or.inl (oW hw 124 rfl)) (Or.inl (oW hw 120 rfl)) (by decide) (t := (.array .int)) (t' := (.array .long)) (by decide) (by decide)
theorem d9_207 : oQ oD24 207 (.aload_n 0) 1 := by decide +kernel
theorem d9_208 : oQ oD24 208 (.getfield 21) 3 := by decide +kernel
theorem d9_211 : oQ oD24 211 (.astore 4) 2 := by decide +kernel
theorem d9_213 : oQ oD24 213 (.aload 4) 2 := by decide +kernel
theorem d9_215 : oQ oD24 215 .arraylength 1 := by decide +kernel
theorem d9_216 : oQ oD24 216 (.istore 5) 2 := by decide +kernel
theorem d9_218 : oQ oD24 218 (.iconst 0) 1 := by decide +kernel
theorem d9_219 : oQ oD24 219 (.istore 6) 2 := by decide +kernel
theorem d9_221 : oQ oD24 221 (.iload 6) 2 := by decide +kernel
theorem d9_223 : oQ oD24 223 (.iload 5) 2 := by decide +kernel
theorem d9_225 : oQ oD24 225 (.if_icmp .ge 70) 3 := by decide +kernel
theorem d9_228 : oQ oD24 228 (.aload 4) 2 := by decide +kernel
theorem d9_230 : oQ oD24 230 (.iload 6) 2 := by decide +kernel
theorem d9_232 : oQ oD24 232 .aaload 1 := by decide +kernel
theorem d9_233 : oQ oD24 233 (.astore 7) 2 := by decide +kernel
theorem d9_235 : oQ oD24 235 (.aload 7) 2 := by decide +kernel
theorem d9_237 : oQ oD24 237 (.ifnull 52) 3 := by decide +kernel
theorem d9_240 : oQ oD24 240 (.iconst 0) 1 := by decide +kernel
theorem d9_241 : oQ oD24 241 (.istore 8) 2 := by decide +kernel
theorem d9_243 : oQ oD24 243 (.iload 8) 2 := by decide +kernel
theorem d9_245 : oQ oD24 245 (.aload 7) 2 := by decide +kernel
theorem d9_247 : oQ oD24 247 (.getfield 83) 3 := by decide +kernel
theorem d9_250 : oQ oD24 250 (.if_icmp .ge 39) 3 := by decide +kernel
theorem d9_253 : oQ oD24 253 (.aload 7) 2 := by decide +kernel
theorem d9_255 : oQ oD24 255 (.getfield 97) 3 := by decide +kernel
theorem d9_258 : oQ oD24 258 (.iload 8) 2 := by decide +kernel
theorem d9_260 : oQ oD24 260 .iaload 1 := by decide +kernel
theorem d9_261 : oQ oD24 261 (.istore 9) 2 := by decide +kernel
theorem d9_263 : oQ oD24 263 (.aload_n 0) 1 := by decide +kernel
theorem d9_264 : oQ oD24 264 (.getfield 51) 3 := by decide +kernel
theorem d9_267 : oQ oD24 267 (.iload 9) 2 := by decide +kernel
theorem d9_269 : oQ oD24 269 .dup2 1 := by decide +kernel
theorem d9_270 : oQ oD24 270 .iaload 1 := by decide +kernel
theorem d9_271 : oQ oD24 271 (.iconst 1) 1 := by decide +kernel
theorem d9_272 : oQ oD24 272 .iadd 1 := by decide +kernel
theorem d9_273 : oQ oD24 273 .iastore 1 := by decide +kernel
theorem d9_274 : oQ oD24 274 (.aload_n 0) 1 := by decide +kernel
theorem d9_275 : oQ oD24 275 (.getfield 36) 3 := by decide +kernel
theorem d9_278 : oQ oD24 278 (.iload 9) 2 := by decide +kernel
theorem d9_280 : oQ oD24 280 (.invokevirtual 99) 3 := by decide +kernel
theorem d9_283 : oQ oD24 283 (.iinc 8 1) 3 := by decide +kernel
theorem d9_286 : oQ oD24 286 (.goto (-43)) 3 := by decide +kernel
theorem d9_289 : oQ oD24 289 (.iinc 6 1) 3 := by decide +kernel
theorem d9_292 : oQ oD24 292 (.goto (-71)) 3 := by decide +kernel
theorem d9_295 : oQ oD24 295 (.aload_n 0) 1 := by decide +kernel
theorem d9_296 : oQ oD24 296 (.getfield 36) 3 := by decide +kernel
theorem d9_299 : oQ oD24 299 (.invokevirtual 101) 3 := by decide +kernel
theorem d9_302 : oQ oD24 302 (.iconst 0) 1 := by decide +kernel
theorem d9_303 : oQ oD24 303 (.istore 4) 2 := by decide +kernel
theorem d9_305 : oQ oD24 305 (.iconst 0) 1 := by decide +kernel
theorem d9_306 : oQ oD24 306 (.istore 5) 2 := by decide +kernel
theorem d9_308 : oQ oD24 308 (.iload 5) 2 := by decide +kernel
theorem d9_310 : oQ oD24 310 (.aload_n 0) 1 := by decide +kernel
theorem d9_311 : oQ oD24 311 (.getfield 36) 3 := by decide +kernel
theorem d9_314 : oQ oD24 314 (.invokevirtual 64) 3 := by decide +kernel
theorem d9_317 : oQ oD24 317 (.if_icmp .ge 95) 3 := by decide +kernel
theorem d9_320 : oQ oD24 320 (.aload_n 0) 1 := by decide +kernel
theorem d9_321 : oQ oD24 321 (.getfield 36) 3 := by decide +kernel
theorem d9_324 : oQ oD24 324 (.iload 5) 2 := by decide +kernel
theorem d9_326 : oQ oD24 326 (.invokevirtual 67) 3 := by decide +kernel
theorem d9_329 : oQ oD24 329 (.istore 6) 2 := by decide +kernel
theorem d9_331 : oQ oD24 331 (.aload_n 0) 1 := by decide +kernel
theorem d9_332 : oQ oD24 332 (.getfield 36) 3 := by decide +kernel
theorem d9_335 : oQ oD24 335 (.iload 6) 2 := by decide +kernel
theorem d9_337 : oQ oD24 337 (.iload 6) 2 := by decide +kernel
theorem d9_339 : oQ oD24 339 (.sipush 1024) 3 := by decide +kernel
theorem d9_342 : oQ oD24 342 .imul 1 := by decide +kernel
theorem d9_343 : oQ oD24 343 (.invokevirtual 104) 3 := by decide +kernel
theorem d9_346 : oQ oD24 346 (.istore 7) 2 := by decide +kernel
theorem d9_348 : oQ oD24 348 (.iload 7) 2 := by decide +kernel
theorem d9_350 : oQ oD24 350 (.ifCond .lt 56) 3 := by decide +kernel
theorem d9_353 : oQ oD24 353 (.aload_n 0) 1 := by decide +kernel
theorem d9_354 : oQ oD24 354 (.getfield 47) 3 := by decide +kernel
theorem d9_357 : oQ oD24 357 (.iload 7) 2 := by decide +kernel
theorem d9_359 : oQ oD24 359 (.iload 4) 2 := by decide +kernel
theorem d9_361 : oQ oD24 361 .iastore 1 := by decide +kernel
theorem d9_362 : oQ oD24 362 (.iload 4) 2 := by decide +kernel
theorem d9_364 : oQ oD24 364 (.aload_n 0) 1 := by decide +kernel
theorem d9_365 : oQ oD24 365 (.getfield 51) 3 := by decide +kernel
theorem d9_368 : oQ oD24 368 (.iload 7) 2 := by decide +kernel
theorem d9_370 : oQ oD24 370 .iaload 1 := by decide +kernel
theorem d9_371 : oQ oD24 371 .iadd 1 := by decide +kernel
theorem d9_372 : oQ oD24 372 (.istore 4) 2 := by decide +kernel
theorem d9_374 : oQ oD24 374 (.aload_n 0) 1 := by decide +kernel
theorem d9_375 : oQ oD24 375 (.getfield 51) 3 := by decide +kernel
theorem d9_378 : oQ oD24 378 (.iload 7) 2 := by decide +kernel
theorem d9_380 : oQ oD24 380 (.aload_n 0) 1 := by decide +kernel
theorem d9_381 : oQ oD24 381 (.getfield 47) 3 := by decide +kernel
theorem d9_384 : oQ oD24 384 (.iload 7) 2 := by decide +kernel
theorem d9_386 : oQ oD24 386 .iaload 1 := by decide +kernel
theorem d9_387 : oQ oD24 387 .iastore 1 := by decide +kernel
theorem d9_388 : oQ oD24 388 (.aload_n 0) 1 := by decide +kernel
theorem d9_389 : oQ oD24 389 (.getfield 36) 3 := by decide +kernel
theorem d9_392 : oQ oD24 392 (.iload 6) 2 := by decide +kernel
theorem d9_394 : oQ oD24 394 (.iload 7) 2 := by decide +kernel
theorem d9_396 : oQ oD24 396 (.iconst 1) 1 := by decide +kernel
theorem d9_397 : oQ oD24 397 .iadd 1 := by decide +kernel
theorem d9_398 : oQ oD24 398 (.invokevirtual 104) 3 := by decide +kernel
theorem d9_401 : oQ oD24 401 (.istore 7) 2 := by decide +kernel
theorem d9_403 : oQ oD24 403 (.goto (-55)) 3 := by decide +kernel
theorem d9_406 : oQ oD24 406 (.iinc 5 1) 3 := by decide +kernel
theorem d9_409 : oQ oD24 409 (.goto (-101)) 3 := by decide +kernel
theorem d9_412 : oQ oD24 412 (.aload_n 0) 1 := by decide +kernel
theorem d9_413 : oQ oD24 413 (.aload_n 0) 1 := by decide +kernel
theorem d9_414 : oQ oD24 414 (.getfield 54) 3 := by decide +kernel
theorem d9_417 : oQ oD24 417 (.newarray .int) 2 := by decide +kernel
theorem d9_419 : oQ oD24 419 (.putfield 57) 3 := by decide +kernel
theorem d9_422 : oQ oD24 422 (.aload_n 0) 1 := by decide +kernel
theorem d9_423 : oQ oD24 423 (.aload_n 0) 1 := by decide +kernel
theorem d9_424 : oQ oD24 424 (.getfield 54) 3 := by decide +kernel
theorem d9_427 : oQ oD24 427 (.newarray .long) 2 := by decide +kernel
theorem d9_429 : oQ oD24 429 (.putfield 60) 3 := by decide +kernel
theorem d9_432 : oQ oD24 432 (.aload_n 0) 1 := by decide +kernel
theorem d9_433 : oQ oD24 433 (.getfield 21) 3 := by decide +kernel
theorem d9_436 : oQ oD24 436 (.astore 5) 2 := by decide +kernel
theorem d9_438 : oQ oD24 438 (.aload 5) 2 := by decide +kernel
theorem d9_440 : oQ oD24 440 .arraylength 1 := by decide +kernel
theorem d9_441 : oQ oD24 441 (.istore 6) 2 := by decide +kernel
theorem d9_443 : oQ oD24 443 (.iconst 0) 1 := by decide +kernel
theorem d9_444 : oQ oD24 444 (.istore 7) 2 := by decide +kernel
theorem d9_446 : oQ oD24 446 (.iload 7) 2 := by decide +kernel
theorem d9_448 : oQ oD24 448 (.iload 6) 2 := by decide +kernel
theorem d9_450 : oQ oD24 450 (.if_icmp .ge 96) 3 := by decide +kernel
theorem d9_453 : oQ oD24 453 (.aload 5) 2 := by decide +kernel
theorem d9_455 : oQ oD24 455 (.iload 7) 2 := by decide +kernel
theorem d9_457 : oQ oD24 457 .aaload 1 := by decide +kernel
theorem d9_458 : oQ oD24 458 (.astore 8) 2 := by decide +kernel
theorem d9_460 : oQ oD24 460 (.aload 8) 2 := by decide +kernel
theorem d9_462 : oQ oD24 462 (.ifnull 78) 3 := by decide +kernel
theorem d9_465 : oQ oD24 465 (.iconst 0) 1 := by decide +kernel
theorem d9_466 : oQ oD24 466 (.istore 9) 2 := by decide +kernel
theorem d9_468 : oQ oD24 468 (.iload 9) 2 := by decide +kernel
theorem d9_470 : oQ oD24 470 (.aload 8) 2 := by decide +kernel
theorem d9_472 : oQ oD24 472 (.getfield 83) 3 := by decide +kernel
theorem d9_475 : oQ oD24 475 (.if_icmp .ge 59) 3 := by decide +kernel
theorem d9_478 : oQ oD24 478 (.aload_n 0) 1 := by decide +kernel
theorem d9_479 : oQ oD24 479 (.getfield 51) 3 := by decide +kernel
theorem d9_482 : oQ oD24 482 (.aload 8) 2 := by decide +kernel
theorem d9_484 : oQ oD24 484 (.getfield 97) 3 := by decide +kernel
theorem d9_487 : oQ oD24 487 (.iload 9) 2 := by decide +kernel
theorem d9_489 : oQ oD24 489 .iaload 1 := by decide +kernel
theorem d9_490 : oQ oD24 490 .dup2 1 := by decide +kernel
theorem d9_491 : oQ oD24 491 .iaload 1 := by decide +kernel
theorem d9_492 : oQ oD24 492 .dup_x2 1 := by decide +kernel
theorem d9_493 : oQ oD24 493 (.iconst 1) 1 := by decide +kernel
theorem d9_494 : oQ oD24 494 .iadd 1 := by decide +kernel
theorem d9_495 : oQ oD24 495 .iastore 1 := by decide +kernel
theorem d9_496 : oQ oD24 496 (.istore 10) 2 := by decide +kernel
theorem d9_498 : oQ oD24 498 (.aload_n 0) 1 := by decide +kernel
theorem d9_499 : oQ oD24 499 (.getfield 57) 3 := by decide +kernel
theorem d9_502 : oQ oD24 502 (.iload 10) 2 := by decide +kernel
theorem d9_504 : oQ oD24 504 (.aload 8) 2 := by decide +kernel
theorem d9_506 : oQ oD24 506 (.getfield 107) 3 := by decide +kernel
theorem d9_509 : oQ oD24 509 (.iload 9) 2 := by decide +kernel
theorem d9_511 : oQ oD24 511 .iaload 1 := by decide +kernel
theorem d9_512 : oQ oD24 512 .iastore 1 := by decide +kernel
theorem d9_513 : oQ oD24 513 (.aload_n 0) 1 := by decide +kernel
theorem d9_514 : oQ oD24 514 (.getfield 60) 3 := by decide +kernel
theorem d9_517 : oQ oD24 517 (.iload 10) 2 := by decide +kernel
theorem d9_519 : oQ oD24 519 (.aload 8) 2 := by decide +kernel
theorem d9_521 : oQ oD24 521 (.getfield 108) 3 := by decide +kernel
theorem d9_524 : oQ oD24 524 (.iload 9) 2 := by decide +kernel
theorem d9_526 : oQ oD24 526 .laload 1 := by decide +kernel
theorem d9_527 : oQ oD24 527 .lastore 1 := by decide +kernel
theorem d9_528 : oQ oD24 528 (.iinc 9 1) 3 := by decide +kernel
theorem d9_531 : oQ oD24 531 (.goto (-63)) 3 := by decide +kernel
theorem d9_534 : oQ oD24 534 (.aload 8) 2 := by decide +kernel
theorem d9_536 : oQ oD24 536 (.iconst 0) 1 := by decide +kernel
theorem d9_537 : oQ oD24 537 (.putfield 83) 3 := by decide +kernel
theorem d9_540 : oQ oD24 540 (.iinc 7 1) 3 := by decide +kernel
theorem d9_543 : oQ oD24 543 (.goto (-97)) 3 := by decide +kernel
theorem d9_546 : oQ oD24 546 (.iconst 1) 1 := by decide +kernel
theorem d9_547 : oQ oD24 547 .ireturn 1 := by decide +kernel
theorem pn_9 : plainName oC0 = true := by first | (simp [plainName, overriddenIn]; done) | decide +kernel
theorem ef_9 (m : MethodId) (r0 : Addr) (p1 : Int32) : entryFrame m #[(.ref r0), (.int p1)] 11 = mkF m 0 #[oR r0, oI p1, oU, oU, oU, oU, oU, oU, oU, oU, oU] [] := by first | (simp [entryFrame, mkF, argsToLocals, Value.category]; done) | rfl
def rm9t_room : Room := { frames := 3, cells := 4, slots := 16, locals := 47 }
def Qrm9t (Z : State) (r0 : Addr) (p1 : Int32) (n : Int32) (ob : Addr) (rv : Addr) (fa : Addr) (ea : Addr) (v0 : Value) (v1 : Value) (Da : List Addr) (Db : List Addr) (La : List Int32) (Lb : List Int32) (wd : Addr) (hd : Addr) (il : Addr) (ix : Addr) (fi : Nat → Int32) (h0 : Heap) (n0 : Nat) (v : Option Value) (h : Heap) (L : List Loc) : Prop := ∃ dx : Int32, ∃ vSx : Value, ∃ vMx : Value, ∃ fy : Addr, ∃ ey : Addr, ∃ fwx : Nat → Int64, ∃ gx : Nat → Int32, v = some (.int 1) ∧ Fr n0 L ∧ h0.size ≤ h.size ∧ Exa Z h r0 oC0 ∧ Fld Z h r0 oC0 "receivers" "I" (.int n) ∧ Fld Z h r0 oC0 "outboxes" oC4 (.ref ob) ∧ Fld Z h r0 oC0 "recipients" oC6 (.ref rv) ∧ Fld Z h r0 oC0 "delivered" "I" (.int dx) ∧ Fld Z h r0 oC0 "senders" "[I" vSx ∧ Fld Z h r0 oC0 "messages" "[J" vMx ∧ Fld Z h r0 oC0 "first" "[I" (.ref fy) ∧ Fld Z h r0 oC0 "end" "[I" (.ref ey) ∧ own_Oa Z h ob oC2 v0 v1 ∧ own_Box Z h n0 v0 Da [] ∧ own_Box Z h n0 v1 Db [] ∧ Exa Z h rv oC1 ∧ Fld Z h rv oC1 "words" "[J" (.ref wd) ∧ Fld Z h rv oC1 "held" "[Z" (.ref hd) ∧ Fld Z h rv oC1 "blocks" oC5 (.ref il) ∧ Fld Z h rv oC1 "sorted" "Z" (.int 1) ∧ Exa Z h il oC3 ∧ Fld Z h il oC3 "indices" "[I" (.ref ix) ∧ Fld Z h il oC3 "size" "I" (.int 1) ∧ own_Arf Z h wd .long (16 : Int32) (fun i => .long (fwx i)) ∧ own_Arf Z h hd .boolean (1 : Int32) (fun i => .int ((fun _ => (1 : Int32)) i)) ∧ own_Arf Z h ix .int (16 : Int32) (fun i => .int (gx i)) ∧ own_Arf Z h fy .int n (fun i => .int ((own_FF La Lb) i)) ∧ own_Arf Z h ey .int n (fun i => .int ((own_EE La Lb) i)) ∧ fy ≠ ey ∧ ix ≠ fy ∧ ix ≠ ey ∧ n0 ≤ fy ∧ n0 ≤ ey ∧ fy ∉ Da ∧ fy ∉ Db ∧ ey ∉ Da ∧ ey ∉ Db ∧ gx 0 = 0
set_option maxRecDepth 65536 in
set_option maxHeartbeats 40000000 in
theorem rm9t (l : Launch) (Z : State) (a0 : Array Value) (hw : oH Z a0) (r0 : Addr) (p1 : Int32) (n : Int32) (ob : Addr) (rv : Addr) (fa : Addr) (ea : Addr) (v0 : Value) (v1 : Value) (Da : List Addr) (Db : List Addr) (La : List Int32) (Lb : List Int32) (wd : Addr) (hd : Addr) (il : Addr) (ix : Addr) (fi : Nat → Int32) (h0 : Heap) (n0 : Nat) {p : Program} {e : Env} {s : State} {m : MethodId} {below : List Frame} {meth : Method} {c : Code} (hx : p.tables.exec = Jvm.exec) (hby : c.code = prog_18_method_9_code) (hml : c.maxLocals = 11) (hZ : Z.Warmed39 s.vm) (hown : s.vm.findClass oC0 = some m.cls) (hlk : meth.locks = false) (hret : meth.sig.returnType = some .boolean) (hh : s.heap = h0)
    {Tt : State} {Lt : List Loc} {ht : Heap} {j7 : Slot} (Xt : Stand p l e rm9t_room s m #[(.ref r0), (.int p1)] below meth c Tt Lt 2 8) (Nt : Fr n0 Lt) (et : Tt.heap = ht) (Zt : n0 ≤ ht.size) (hj7 : One j7) (E_r0_0 : Exa Z ht r0 oC0) (F_receivers_r0_0 : Fld Z ht r0 oC0 "receivers" "I" (.int n)) (F_outboxes_r0_0 : Fld Z ht r0 oC0 "outboxes" oC4 (.ref ob)) (F_recipients_r0_0 : Fld Z ht r0 oC0 "recipients" oC6 (.ref rv)) (F_delivered_r0_0 : Fld Z ht r0 oC0 "delivered" "I" (.int ((own_tot (own_tot (0 : Int64) La) Lb).toInt32))) (F_senders_r0_0 : Fld Z ht r0 oC0 "senders" "[I" .null) (F_messages_r0_0 : Fld Z ht r0 oC0 "messages" "[J" .null) (F_first_r0_0 : Fld Z ht r0 oC0 "first" "[I" (.ref fa)) (F_end_r0_0 : Fld Z ht r0 oC0 "end" "[I" (.ref ea)) (O_ob_0 : own_Oa Z ht ob oC2 v0 v1) (B_0_0 : own_Box Z ht n0 v0 Da La) (B_1_0 : own_Box Z ht n0 v1 Db Lb) (E_rv_0 : Exa Z ht rv oC1) (F_words_rv_0 : Fld Z ht rv oC1 "words" "[J" (.ref wd)) (F_held_rv_0 : Fld Z ht rv oC1 "held" "[Z" (.ref hd)) (F_blocks_rv_0 : Fld Z ht rv oC1 "blocks" oC5 (.ref il)) (F_sorted_rv_0 : Fld Z ht rv oC1 "sorted" "Z" (.int 1)) (E_il_0 : Exa Z ht il oC3) (F_indices_il_0 : Fld Z ht il oC3 "indices" "[I" (.ref ix)) (F_size_il_0 : Fld Z ht il oC3 "size" "I" (.int 0)) (A_ix_0 : own_Arf Z ht ix .int (16 : Int32) (fun i => .int (fi i))) (A_wd_0 : own_Arf Z ht wd .long (16 : Int32) (fun i => .long ((own_w0 (0 : Int64)) i))) (A_hd_0 : own_Arf Z ht hd .boolean (1 : Int32) (fun i => .int ((fun _ => (0 : Int32)) i))) (A_fa_0 : own_Arf Z ht fa .int n (fun i => .int ((fun _ => (0 : Int32)) i))) (A_ea_0 : own_Arf Z ht ea .int n (fun i => .int ((fun _ => (0 : Int32)) i))) (ne_fa_ea : fa ≠ ea) (ne_ix_fa : ix ≠ fa) (ne_ix_ea : ix ≠ ea) (ge_r0 : n0 ≤ r0) (ge_rv : n0 ≤ rv) (ge_wd : n0 ≤ wd) (ge_hd : n0 ≤ hd) (ge_il : n0 ≤ il) (ge_ix : n0 ≤ ix) (ge_fa : n0 ≤ fa) (ge_ea : n0 ≤ ea) (nb_r0_0 : r0 ∉ Da) (nb_r0_1 : r0 ∉ Db) (nb_rv_0 : rv ∉ Da) (nb_rv_1 : rv ∉ Db) (nb_wd_0 : wd ∉ Da) (nb_wd_1 : wd ∉ Db) (nb_hd_0 : hd ∉ Da) (nb_hd_1 : hd ∉ Db) (nb_il_0 : il ∉ Da) (nb_il_1 : il ∉ Db) (nb_ix_0 : ix ∉ Da) (nb_ix_1 : ix ∉ Db) (nb_fa_0 : fa ∉ Da) (nb_fa_1 : fa ∉ Db) (nb_ea_0 : ea ∉ Da) (nb_ea_1 : ea ∉ Db) (hdj : ∀ x ∈ Da, x ∉ Db) (hn : own_n14 n) (hl : La.length + Lb.length ≤ 3) (hm : ∀ r ∈ La ++ Lb, own_in r n) (hz : La ++ Lb ≠ []) : own_Fin p.tables e below s (Qrm9t Z r0 p1 n ob rv fa ea v0 v1 Da Db La Lb wd hd il ix fi h0 n0) rm9t_room.cells rm9t_room.slots (Tt.setTop (mkF m 207 #[oR r0, oI p1, .val (.long (own_tot (own_tot (0 : Int64) La) Lb)), oS, oR ob, oI 2, oI 2, j7, oU, oU, oU] [])) := by
 show oF (Tt.setTop (mkF m 207 #[oR r0, oI p1, .val (.long (own_tot (own_tot (0 : Int64) La) Lb)), oS, oR ob, oI 2, oI 2, j7, oU, oU, oU] []))
 have hdk : ∀ x ∈ Db, x ∉ Da := fun x h1 h0 => hdj x h0 h1
 refine own_go (fun _ k => XS.aloadN Xt.here hx rfl (hb hby d9_207) rfl rfl k) ?_
 obtain ⟨T1, X1, e1, st1⟩ := getF Xt hx hZ hown (host := "") (Or.inl (oW hw 24 rfl)) Via.refl et F_outboxes_r0_0 (g := (mkF m 208 #[oR r0, oI p1, .val (.long (own_tot (own_tot (0 : Int64) La) Lb)), oS, oR ob, oI 2, oI 2, j7, oU, oU, oU] [(.ref r0)])) rfl rfl (hb hby d9_208)
 refine own_go (fun tg k => st1 tg k) ?_
 refine own_go (fun _ k => XS.astore X1.here hx rfl (hb hby d9_211) rfl rfl (l' := #[oR r0, oI p1, .val (.long (own_tot (own_tot (0 : Int64) La) Lb)), oS, oR ob, oI 2, oI 2, j7, oU, oU, oU]) rfl (XS.aload X1.here hx rfl (hb hby d9_213) rfl rfl k)) ?_
 refine own_go (fun tg k => own_oalen X1 hx hZ e1 O_ob_0 (g := (mkF m 215 #[oR r0, oI p1, .val (.long (own_tot (own_tot (0 : Int64) La) Lb)), oS, oR ob, oI 2, oI 2, j7, oU, oU, oU] [(.ref ob)])) rfl rfl (hb hby d9_215) tg k) ?_
 refine own_go (fun _ k => XS.istore X1.here hx rfl (hb hby d9_216) rfl (l' := #[oR r0, oI p1, .val (.long (own_tot (own_tot (0 : Int64) La) Lb)), oS, oR ob, oI 2, oI 2, j7, oU, oU, oU]) rfl (XS.iconst X1.here hx rfl (hb hby d9_218) (XS.istore X1.here hx rfl (hb hby d9_219) rfl (l' := #[oR r0, oI p1, .val (.long (own_tot (own_tot (0 : Int64) La) Lb)), oS, oR ob, oI 2, oI 0, j7, oU, oU, oU]) rfl (XS.iload X1.here hx rfl (hb hby d9_221) rfl (XS.iload X1.here hx rfl (hb hby d9_223) rfl (XS.icmpNo X1.here hx rfl (hb hby d9_225) rfl (tlt (by decide)).2.1 (XS.aload X1.here hx rfl (hb hby d9_228) rfl rfl (XS.iload X1.here hx rfl (hb hby d9_230) rfl k)))))))) ?_
 refine own_go (fun tg k => own_oald X1 hx hZ e1 O_ob_0 (v := v0) (Or.inl ⟨rfl, rfl⟩) (g := (mkF m 232 #[oR r0, oI p1, .val (.long (own_tot (own_tot (0 : Int64) La) Lb)), oS, oR ob, oI 2, oI 0, j7, oU, oU, oU] [(.int 0), (.ref ob)])) rfl rfl (hb hby d9_232) tg k) ?_
 show oF (T1.setTop (mkF m 233 #[oR r0, oI p1, .val (.long (own_tot (own_tot (0 : Int64) La) Lb)), oS, oR ob, oI 2, oI 0, j7, oU, oU, oU] [v0]))
 have hk2 : ∀ (T2L : State) (L2L : List Loc) (h2L : Heap) (j72 : Slot) (j82 : Slot) (j92 : Slot), Stand p l e rm9t_room s m #[(.ref r0), (.int p1)] below meth c T2L L2L 2 8 → Fr n0 L2L → T2L.heap = h2L → One j72 → One j82 → One j92 → n0 ≤ h2L.size → Exa Z h2L r0 oC0 → Fld Z h2L r0 oC0 "receivers" "I" (.int n) → Fld Z h2L r0 oC0 "outboxes" oC4 (.ref ob) → Fld Z h2L r0 oC0 "recipients" oC6 (.ref rv) → Fld Z h2L r0 oC0 "delivered" "I" (.int ((own_tot (own_tot (0 : Int64) La) Lb).toInt32)) → Fld Z h2L r0 oC0 "senders" "[I" .null → Fld Z h2L r0 oC0 "messages" "[J" .null → Fld Z h2L r0 oC0 "first" "[I" (.ref fa) → Fld Z h2L r0 oC0 "end" "[I" (.ref ea) → own_Oa Z h2L ob oC2 v0 v1 → own_Box Z h2L n0 v0 Da La → own_Box Z h2L n0 v1 Db Lb → Exa Z h2L rv oC1 → Fld Z h2L rv oC1 "words" "[J" (.ref wd) → Fld Z h2L rv oC1 "held" "[Z" (.ref hd) → Fld Z h2L rv oC1 "blocks" oC5 (.ref il) → Fld Z h2L rv oC1 "sorted" "Z" (.int 1) → Exa Z h2L il oC3 → Fld Z h2L il oC3 "indices" "[I" (.ref ix) → Fld Z h2L il oC3 "size" "I" (.int (own_b (0 : Int32) La)) → own_Arf Z h2L ix .int (16 : Int32) (fun i => .int ((own_gi (0 : Int32) fi La) i)) → own_Arf Z h2L wd .long (16 : Int32) (fun i => .long ((own_w0 (own_or (0 : Int64) La)) i)) → own_Arf Z h2L hd .boolean (1 : Int32) (fun i => .int ((fun _ => (own_b (0 : Int32) La)) i)) → own_Arf Z h2L fa .int n (fun i => .int ((fun _ => (0 : Int32)) i)) → own_Arf Z h2L ea .int n (fun i => .int ((own_cnt (fun _ => (0 : Int32)) La) i)) → own_Fin p.tables e below s (Qrm9t Z r0 p1 n ob rv fa ea v0 v1 Da Db La Lb wd hd il ix fi h0 n0) rm9t_room.cells rm9t_room.slots (T2L.setTop (mkF m 289 #[oR r0, oI p1, .val (.long (own_tot (own_tot (0 : Int64) La) Lb)), oS, oR ob, oI 2, oI 0, j72, j82, j92, oU] [])) := by
  intro T2L L2L h2L j72 j82 j92 X2L N2L e2L hj72 hj82 hj92 Z2L E_r0_2L F_receivers_r0_2L F_outboxes_r0_2L F_recipients_r0_2L F_delivered_r0_2L F_senders_r0_2L F_messages_r0_2L F_first_r0_2L F_end_r0_2L O_ob_2L B_0_2L B_1_2L E_rv_2L F_words_rv_2L F_held_rv_2L F_blocks_rv_2L F_sorted_rv_2L E_il_2L F_indices_il_2L F_size_il_2L A_ix_2L A_wd_2L A_hd_2L A_fa_2L A_ea_2L
  show oF (T2L.setTop (mkF m 289 #[oR r0, oI p1, .val (.long (own_tot (own_tot (0 : Int64) La) Lb)), oS, oR ob, oI 2, oI 0, j72, j82, j92, oU] []))
  refine own_go (fun _ k => XS.iinc X2L.here hx rfl (hb hby d9_289) rfl (l' := #[oR r0, oI p1, .val (.long (own_tot (own_tot (0 : Int64) La) Lb)), oS, oR ob, oI 2, oI 1, j72, j82, j92, oU]) rfl k) ?_
  show oF (T2L.setTop (mkF m 292 #[oR r0, oI p1, .val (.long (own_tot (own_tot (0 : Int64) La) Lb)), oS, oR ob, oI 2, oI 1, j72, j82, j92, oU] []))
  refine own_go (fun _ k => XS.goto X2L.here hx rfl (pc0 := 292) (pc' := 221) rfl (hb hby d9_292) (by decide) (by decide) (XS.iload X2L.here hx rfl (hb hby d9_221) rfl (XS.iload X2L.here hx rfl (hb hby d9_223) rfl (XS.icmpNo X2L.here hx rfl (hb hby d9_225) rfl (tlt (by decide)).2.1 (XS.aload X2L.here hx rfl (hb hby d9_228) rfl rfl (XS.iload X2L.here hx rfl (hb hby d9_230) rfl k)))))) ?_
  refine own_go (fun tg k => own_oald X2L hx hZ e2L O_ob_2L (v := v1) (Or.inr ⟨rfl, rfl⟩) (g := (mkF m 232 #[oR r0, oI p1, .val (.long (own_tot (own_tot (0 : Int64) La) Lb)), oS, oR ob, oI 2, oI 1, j72, j82, j92, oU] [(.int 1), (.ref ob)])) rfl rfl (hb hby d9_232) tg k) ?_
  show oF (T2L.setTop (mkF m 233 #[oR r0, oI p1, .val (.long (own_tot (own_tot (0 : Int64) La) Lb)), oS, oR ob, oI 2, oI 1, j72, j82, j92, oU] [v1]))
  have hk3 : ∀ (T3L : State) (L3L : List Loc) (h3L : Heap) (j73 : Slot) (j83 : Slot) (j93 : Slot), Stand p l e rm9t_room s m #[(.ref r0), (.int p1)] below meth c T3L L3L 2 8 → Fr n0 L3L → T3L.heap = h3L → One j73 → One j83 → One j93 → n0 ≤ h3L.size → Exa Z h3L r0 oC0 → Fld Z h3L r0 oC0 "receivers" "I" (.int n) → Fld Z h3L r0 oC0 "outboxes" oC4 (.ref ob) → Fld Z h3L r0 oC0 "recipients" oC6 (.ref rv) → Fld Z h3L r0 oC0 "delivered" "I" (.int ((own_tot (own_tot (0 : Int64) La) Lb).toInt32)) → Fld Z h3L r0 oC0 "senders" "[I" .null → Fld Z h3L r0 oC0 "messages" "[J" .null → Fld Z h3L r0 oC0 "first" "[I" (.ref fa) → Fld Z h3L r0 oC0 "end" "[I" (.ref ea) → own_Oa Z h3L ob oC2 v0 v1 → own_Box Z h3L n0 v0 Da La → own_Box Z h3L n0 v1 Db Lb → Exa Z h3L rv oC1 → Fld Z h3L rv oC1 "words" "[J" (.ref wd) → Fld Z h3L rv oC1 "held" "[Z" (.ref hd) → Fld Z h3L rv oC1 "blocks" oC5 (.ref il) → Fld Z h3L rv oC1 "sorted" "Z" (.int 1) → Exa Z h3L il oC3 → Fld Z h3L il oC3 "indices" "[I" (.ref ix) → Fld Z h3L il oC3 "size" "I" (.int (own_b (own_b (0 : Int32) La) Lb)) → own_Arf Z h3L ix .int (16 : Int32) (fun i => .int ((own_gi (own_b (0 : Int32) La) (own_gi (0 : Int32) fi La) Lb) i)) → own_Arf Z h3L wd .long (16 : Int32) (fun i => .long ((own_w0 (own_or (own_or (0 : Int64) La) Lb)) i)) → own_Arf Z h3L hd .boolean (1 : Int32) (fun i => .int ((fun _ => (own_b (own_b (0 : Int32) La) Lb)) i)) → own_Arf Z h3L fa .int n (fun i => .int ((fun _ => (0 : Int32)) i)) → own_Arf Z h3L ea .int n (fun i => .int ((own_cnt (own_cnt (fun _ => (0 : Int32)) La) Lb) i)) → own_Fin p.tables e below s (Qrm9t Z r0 p1 n ob rv fa ea v0 v1 Da Db La Lb wd hd il ix fi h0 n0) rm9t_room.cells rm9t_room.slots (T3L.setTop (mkF m 289 #[oR r0, oI p1, .val (.long (own_tot (own_tot (0 : Int64) La) Lb)), oS, oR ob, oI 2, oI 1, j73, j83, j93, oU] [])) := by
   intro T3L L3L h3L j73 j83 j93 X3L N3L e3L hj73 hj83 hj93 Z3L E_r0_3L F_receivers_r0_3L F_outboxes_r0_3L F_recipients_r0_3L F_delivered_r0_3L F_senders_r0_3L F_messages_r0_3L F_first_r0_3L F_end_r0_3L O_ob_3L B_0_3L B_1_3L E_rv_3L F_words_rv_3L F_held_rv_3L F_blocks_rv_3L F_sorted_rv_3L E_il_3L F_indices_il_3L F_size_il_3L A_ix_3L A_wd_3L A_hd_3L A_fa_3L A_ea_3L
   show oF (T3L.setTop (mkF m 289 #[oR r0, oI p1, .val (.long (own_tot (own_tot (0 : Int64) La) Lb)), oS, oR ob, oI 2, oI 1, j73, j83, j93, oU] []))
   refine own_go (fun _ k => XS.iinc X3L.here hx rfl (hb hby d9_289) rfl (l' := #[oR r0, oI p1, .val (.long (own_tot (own_tot (0 : Int64) La) Lb)), oS, oR ob, oI 2, oI 2, j73, j83, j93, oU]) rfl k) ?_
   show oF (T3L.setTop (mkF m 292 #[oR r0, oI p1, .val (.long (own_tot (own_tot (0 : Int64) La) Lb)), oS, oR ob, oI 2, oI 2, j73, j83, j93, oU] []))
   refine own_go (fun _ k => XS.goto X3L.here hx rfl (pc0 := 292) (pc' := 221) rfl (hb hby d9_292) (by decide) (by decide) (XS.iload X3L.here hx rfl (hb hby d9_221) rfl (XS.iload X3L.here hx rfl (hb hby d9_223) rfl (XS.icmpYes X3L.here hx rfl (pc0 := 225) (pc' := 295) rfl (hb hby d9_225) rfl (flt (by decide)).2.1 (by decide) (by decide) k)))) ?_
   show oF (T3L.setTop (mkF m 295 #[oR r0, oI p1, .val (.long (own_tot (own_tot (0 : Int64) La) Lb)), oS, oR ob, oI 2, oI 2, j73, j83, j93, oU] []))
   have hb2 : (own_b (own_b (0 : Int32) La) Lb) = (1 : Int32) := own_b2 hz
   rw [hb2] at F_size_il_3L A_hd_3L
   have hf2 : (own_gi (own_b (0 : Int32) La) (own_gi (0 : Int32) fi La) Lb) 0 = 0 := own_f2 hz
   refine own_go (fun _ k => XS.aloadN X3L.here hx rfl (hb hby d9_295) rfl rfl k) ?_
   obtain ⟨T4, X4, e4, st4⟩ := getF X3L hx hZ hown (host := "") (Or.inl (oW hw 57 rfl)) Via.refl e3L F_recipients_r0_3L (g := (mkF m 296 #[oR r0, oI p1, .val (.long (own_tot (own_tot (0 : Int64) La) Lb)), oS, oR ob, oI 2, oI 2, j73, j83, j93, oU] [(.ref r0)])) rfl rfl (hb hby d9_296)
   refine own_go (fun tg k => st4 tg k) ?_
   obtain ⟨cq5, kq5, q5a, q5b, q5c⟩ := isOf hZ e4 E_rv_3L
   obtain ⟨_, _, ⟨T5, L5, k5, n5⟩, -, X5, ⟨Lc5, hQ5, l5, y5, z5⟩, st5⟩ := X4.virtualBack hx (y := oM12) (z := oM12) hown (mvT hZ (oW hw 140 rfl)) (mvT hZ (oW hw 141 rfl)) (notFace_of_selects (args := #[]) (mvT hZ (oW hw 143 rfl))) (mvT hZ (oW hw 143 rfl)) (mvT hZ (oW hw 142 rfl)) (by decide) (backOf (W := 0) (rm17 l Z a0 hw [] rv h3L n0 Z3L F_sorted_rv_3L) hZ (oW hw 144 rfl) (oW hw 28 rfl) (by decide) (by decide)) q5a q5c (g := (mkF m 299 #[oR r0, oI p1, .val (.long (own_tot (own_tot (0 : Int64) La) Lb)), oS, oR ob, oI 2, oI 2, j73, j83, j93, oU] [(.ref rv)])) rfl (by rw [hml]; rfl) (Steps.refl _) (argsL := []) (rest := []) (lenOf own_pd158 rfl) rfl (by show 2 * 0 + _ ≤ _; exact Nat.le_of_eq rfl) (hb hby d9_299) (fun _ _ => ⟨rfl, e4, (by decide : 2 + 0 ≤ _), (by decide : 8 + 0 ≤ _)⟩)
   dsimp only [Pt.U, Pt.locs, Pt.cells, Pt.slots] at X5 l5 y5 z5 st5 hQ5
   replace y5 : 2 = k5 := y5.symm
   replace z5 : 8 = n5 := z5.symm
   subst y5 z5
   obtain ⟨rfl, N5q, e5⟩ := hQ5
   have N5 : Fr n0 L5 := by rw [l5]; exact Fr.app N3L N5q
   refine own_go (fun tg k => st5.trans k) ?_
   show oF (T5.setTop (mkF m 302 #[oR r0, oI p1, .val (.long (own_tot (own_tot (0 : Int64) La) Lb)), oS, oR ob, oI 2, oI 2, j73, j83, j93, oU] []))
   refine own_go (fun _ k => XS.iconst X5.here hx rfl (hb hby d9_302) (XS.istore X5.here hx rfl (hb hby d9_303) rfl (l' := #[oR r0, oI p1, .val (.long (own_tot (own_tot (0 : Int64) La) Lb)), oS, oI 0, oI 2, oI 2, j73, j83, j93, oU]) rfl (XS.iconst X5.here hx rfl (hb hby d9_305) (XS.istore X5.here hx rfl (hb hby d9_306) rfl (l' := #[oR r0, oI p1, .val (.long (own_tot (own_tot (0 : Int64) La) Lb)), oS, oI 0, oI 0, oI 2, j73, j83, j93, oU]) rfl (XS.iload X5.here hx rfl (hb hby d9_308) rfl (XS.aloadN X5.here hx rfl (hb hby d9_310) rfl rfl k)))))) ?_
   obtain ⟨T6, X6, e6, st6⟩ := getF X5 hx hZ hown (host := "") (Or.inl (oW hw 57 rfl)) Via.refl e5 F_recipients_r0_3L (g := (mkF m 311 #[oR r0, oI p1, .val (.long (own_tot (own_tot (0 : Int64) La) Lb)), oS, oI 0, oI 0, oI 2, j73, j83, j93, oU] [(.ref r0), (.int 0)])) rfl rfl (hb hby d9_311)
   refine own_go (fun tg k => st6 tg k) ?_
   obtain ⟨cq7, kq7, q7a, q7b, q7c⟩ := isOf hZ e6 E_rv_3L
   obtain ⟨_, _, ⟨T7, L7, k7, n7⟩, -, X7, ⟨Lc7, hQ7, l7, y7, z7⟩, st7⟩ := X6.virtualBack hx (y := oM11) (z := oM11) hown (mvT hZ (oW hw 91 rfl)) (mvT hZ (oW hw 92 rfl)) (notFace_of_selects (args := #[]) (mvT hZ (oW hw 94 rfl))) (mvT hZ (oW hw 94 rfl)) (mvT hZ (oW hw 93 rfl)) (by decide) (backOf (W := 1) (rm10 l Z a0 hw [] rv il (1 : Int32) h3L n0 Z3L F_blocks_rv_3L E_il_3L F_size_il_3L) hZ (oW hw 95 rfl) (oW hw 28 rfl) (by decide) (by decide)) q7a q7c (g := (mkF m 314 #[oR r0, oI p1, .val (.long (own_tot (own_tot (0 : Int64) La) Lb)), oS, oI 0, oI 0, oI 2, j73, j83, j93, oU] [(.ref rv), (.int 0)])) rfl (by rw [hml]; rfl) (Steps.refl _) (argsL := []) (rest := [(.int 0)]) (lenOf own_pd194 rfl) rfl (by show 2 * 0 + _ ≤ _; exact Nat.le_of_eq rfl) (hb hby d9_314) (fun _ _ => ⟨rfl, e6, (by decide : 2 + 0 ≤ _), (by decide : 8 + 0 ≤ _)⟩)
   dsimp only [Pt.U, Pt.locs, Pt.cells, Pt.slots] at X7 l7 y7 z7 st7 hQ7
   replace y7 : 2 = k7 := y7.symm
   replace z7 : 8 = n7 := z7.symm
   subst y7 z7
   obtain ⟨rfl, N7q, e7⟩ := hQ7
   have N7 : Fr n0 L7 := by rw [l7]; exact Fr.app N5 N7q
   refine own_go (fun tg k => st7.trans k) ?_
   show oF (T7.setTop (mkF m 317 #[oR r0, oI p1, .val (.long (own_tot (own_tot (0 : Int64) La) Lb)), oS, oI 0, oI 0, oI 2, j73, j83, j93, oU] [(.int 1), (.int 0)]))
   refine own_go (fun _ k => XS.icmpNo X7.here hx rfl (hb hby d9_317) rfl (tlt (by decide)).2.1 (XS.aloadN X7.here hx rfl (hb hby d9_320) rfl rfl k)) ?_
   obtain ⟨T8, X8, e8, st8⟩ := getF X7 hx hZ hown (host := "") (Or.inl (oW hw 57 rfl)) Via.refl e7 F_recipients_r0_3L (g := (mkF m 321 #[oR r0, oI p1, .val (.long (own_tot (own_tot (0 : Int64) La) Lb)), oS, oI 0, oI 0, oI 2, j73, j83, j93, oU] [(.ref r0)])) rfl rfl (hb hby d9_321)
   refine own_go (fun tg k => st8 tg k) ?_
   refine own_go (fun _ k => XS.iload X8.here hx rfl (hb hby d9_324) rfl k) ?_
   obtain ⟨cq9, kq9, q9a, q9b, q9c⟩ := isOf hZ e8 E_rv_3L
   obtain ⟨_, _, ⟨T9, L9, k9, n9⟩, -, X9, ⟨Lc9, hQ9, l9, y9, z9⟩, st9⟩ := X8.virtualBack hx (y := oM13) (z := oM13) hown (mvT hZ (oW hw 145 rfl)) (mvT hZ (oW hw 146 rfl)) (notFace_of_selects (args := #[]) (mvT hZ (oW hw 148 rfl))) (mvT hZ (oW hw 148 rfl)) (mvT hZ (oW hw 147 rfl)) (by decide) (backOf (W := 0) (rm18 l Z a0 hw [] rv il ix (own_gi (own_b (0 : Int32) La) (own_gi (0 : Int32) fi La) Lb) h3L n0 Z3L F_sorted_rv_3L F_blocks_rv_3L E_il_3L F_indices_il_3L A_ix_3L) hZ (oW hw 149 rfl) (oW hw 28 rfl) (by decide) (by decide)) q9a q9c (g := (mkF m 326 #[oR r0, oI p1, .val (.long (own_tot (own_tot (0 : Int64) La) Lb)), oS, oI 0, oI 0, oI 2, j73, j83, j93, oU] [(.int 0), (.ref rv)])) rfl (by rw [hml]; rfl) (Steps.refl _) (argsL := [(.int 0)]) (rest := []) (lenOf own_pd90 rfl) rfl (by show 2 * 0 + _ ≤ _; exact Nat.le_of_eq rfl) (hb hby d9_326) (fun _ _ => ⟨rfl, e8, (by decide : 2 + 0 ≤ _), (by decide : 8 + 0 ≤ _)⟩)
   dsimp only [Pt.U, Pt.locs, Pt.cells, Pt.slots] at X9 l9 y9 z9 st9 hQ9
   replace y9 : 2 = k9 := y9.symm
   replace z9 : 8 = n9 := z9.symm
   subst y9 z9
   obtain ⟨rfl, N9q, e9⟩ := hQ9
   have N9 : Fr n0 L9 := by rw [l9]; exact Fr.app N7 N9q
   refine own_go (fun tg k => st9.trans k) ?_
   show oF (T9.setTop (mkF m 329 #[oR r0, oI p1, .val (.long (own_tot (own_tot (0 : Int64) La) Lb)), oS, oI 0, oI 0, oI 2, j73, j83, j93, oU] [(.int ((own_gi (own_b (0 : Int32) La) (own_gi (0 : Int32) fi La) Lb) 0))]))
   have hr10 : ((own_gi (own_b (0 : Int32) La) (own_gi (0 : Int32) fi La) Lb) 0) = (0 : Int32) := hf2
   rw [hr10]
   show oF (T9.setTop (mkF m 329 #[oR r0, oI p1, .val (.long (own_tot (own_tot (0 : Int64) La) Lb)), oS, oI 0, oI 0, oI 2, j73, j83, j93, oU] [(.int 0)]))
   refine own_go (fun _ k => XS.istore X9.here hx rfl (hb hby d9_329) rfl (l' := #[oR r0, oI p1, .val (.long (own_tot (own_tot (0 : Int64) La) Lb)), oS, oI 0, oI 0, oI 0, j73, j83, j93, oU]) rfl (XS.aloadN X9.here hx rfl (hb hby d9_331) rfl rfl k)) ?_
   obtain ⟨T11, X11, e11, st11⟩ := getF X9 hx hZ hown (host := "") (Or.inl (oW hw 57 rfl)) Via.refl e9 F_recipients_r0_3L (g := (mkF m 332 #[oR r0, oI p1, .val (.long (own_tot (own_tot (0 : Int64) La) Lb)), oS, oI 0, oI 0, oI 0, j73, j83, j93, oU] [(.ref r0)])) rfl rfl (hb hby d9_332)
   refine own_go (fun tg k => st11 tg k) ?_
   refine own_go (fun _ k => XS.iload X11.here hx rfl (hb hby d9_335) rfl (XS.iload X11.here hx rfl (hb hby d9_337) rfl (XS.sipush X11.here hx rfl (hb hby d9_339) (XS.imul X11.here hx rfl (hb hby d9_342) rfl k)))) ?_
   show oF (T11.setTop (mkF m 343 #[oR r0, oI p1, .val (.long (own_tot (own_tot (0 : Int64) La) Lb)), oS, oI 0, oI 0, oI 0, j73, j83, j93, oU] [(.int 0), (.int 0), (.ref rv)]))
   obtain ⟨cq12, kq12, q12a, q12b, q12c⟩ := isOf hZ e11 E_rv_3L
   obtain ⟨_, _, ⟨T12, L12, k12, n12⟩, -, X12, ⟨Lc12, hQ12, l12, y12, z12⟩, st12⟩ := X11.virtualBack hx (y := oM20) (z := oM20) hown (mvT hZ (oW hw 155 rfl)) (mvT hZ (oW hw 156 rfl)) (notFace_of_selects (args := #[]) (mvT hZ (oW hw 158 rfl))) (mvT hZ (oW hw 158 rfl)) (mvT hZ (oW hw 157 rfl)) (by decide) (backOf (W := 0) (rm20 l Z a0 hw [] rv (0 : Int32) wd (own_or (own_or (0 : Int64) La) Lb) h3L n0 Z3L F_words_rv_3L A_wd_3L (Or.inl rfl)) hZ (oW hw 159 rfl) (oW hw 28 rfl) (by decide) (by decide)) q12a q12c (g := (mkF m 343 #[oR r0, oI p1, .val (.long (own_tot (own_tot (0 : Int64) La) Lb)), oS, oI 0, oI 0, oI 0, j73, j83, j93, oU] [(.int 0), (.int 0), (.ref rv)])) rfl (by rw [hml]; rfl) (Steps.refl _) (argsL := [(.int 0), (.int 0)]) (rest := []) (lenOf own_pd504 rfl) rfl (by show 2 * 0 + _ ≤ _; exact Nat.le_of_eq rfl) (hb hby d9_343) (fun _ _ => ⟨rfl, e11, (by decide : 2 + 0 ≤ _), (by decide : 8 + 0 ≤ _)⟩)
   dsimp only [Pt.U, Pt.locs, Pt.cells, Pt.slots] at X12 l12 y12 z12 st12 hQ12
   replace y12 : 2 = k12 := y12.symm
   replace z12 : 8 = n12 := z12.symm
   subst y12 z12
   obtain ⟨rfl, N12q, e12⟩ := hQ12
   have N12 : Fr n0 L12 := by rw [l12]; exact Fr.app N9 N12q
   refine own_go (fun tg k => st12.trans k) ?_
   show oF (T12.setTop (mkF m 346 #[oR r0, oI p1, .val (.long (own_tot (own_tot (0 : Int64) La) Lb)), oS, oI 0, oI 0, oI 0, j73, j83, j93, oU] [(.int (own_nxt (own_or (own_or (0 : Int64) La) Lb) (0 : Int32)))]))
   refine own_go (fun _ k => XS.istoreS X12.here hx rfl (hb hby d9_346) rfl rfl hj73 k) ?_
   show oF (T12.setTop (mkF m 348 #[oR r0, oI p1, .val (.long (own_tot (own_tot (0 : Int64) La) Lb)), oS, oI 0, oI 0, oI 0, .val (.int (own_nxt (own_or (own_or (0 : Int64) La) Lb) (0 : Int32))), j83, j93, oU] []))
   have loopS : ∀ (kS : Nat) (v : Int32) (ps : Int32) (fF : Nat → Int32) (eF : Nat → Int32) (fu : Nat) (TSL : State) (LSL : List Loc) (hSL : Heap), kS = fu → own_SI (own_or (own_or (0 : Int64) La) Lb) (fun _ => (0 : Int32)) (own_cnt (own_cnt (fun _ => (0 : Int32)) La) Lb) n fu v ps fF eF → Stand p l e rm9t_room s m #[(.ref r0), (.int p1)] below meth c TSL LSL 2 8 → Fr n0 LSL → TSL.heap = hSL → n0 ≤ hSL.size → Exa Z hSL r0 oC0 → Fld Z hSL r0 oC0 "receivers" "I" (.int n) → Fld Z hSL r0 oC0 "outboxes" oC4 (.ref ob) → Fld Z hSL r0 oC0 "recipients" oC6 (.ref rv) → Fld Z hSL r0 oC0 "delivered" "I" (.int ((own_tot (own_tot (0 : Int64) La) Lb).toInt32)) → Fld Z hSL r0 oC0 "senders" "[I" .null → Fld Z hSL r0 oC0 "messages" "[J" .null → Fld Z hSL r0 oC0 "first" "[I" (.ref fa) → Fld Z hSL r0 oC0 "end" "[I" (.ref ea) → own_Oa Z hSL ob oC2 v0 v1 → own_Box Z hSL n0 v0 Da La → own_Box Z hSL n0 v1 Db Lb → Exa Z hSL rv oC1 → Fld Z hSL rv oC1 "words" "[J" (.ref wd) → Fld Z hSL rv oC1 "held" "[Z" (.ref hd) → Fld Z hSL rv oC1 "blocks" oC5 (.ref il) → Fld Z hSL rv oC1 "sorted" "Z" (.int 1) → Exa Z hSL il oC3 → Fld Z hSL il oC3 "indices" "[I" (.ref ix) → Fld Z hSL il oC3 "size" "I" (.int 1) → own_Arf Z hSL ix .int (16 : Int32) (fun i => .int ((own_gi (own_b (0 : Int32) La) (own_gi (0 : Int32) fi La) Lb) i)) → own_Arf Z hSL wd .long (16 : Int32) (fun i => .long ((own_w0 (own_or (own_or (0 : Int64) La) Lb)) i)) → own_Arf Z hSL hd .boolean (1 : Int32) (fun i => .int ((fun _ => (1 : Int32)) i)) → own_Arf Z hSL fa .int n (fun i => .int (fF i)) → own_Arf Z hSL ea .int n (fun i => .int (eF i)) → own_Fin p.tables e below s (Qrm9t Z r0 p1 n ob rv fa ea v0 v1 Da Db La Lb wd hd il ix fi h0 n0) rm9t_room.cells rm9t_room.slots (TSL.setTop (mkF m 348 #[oR r0, oI p1, .val (.long (own_tot (own_tot (0 : Int64) La) Lb)), oS, oI ps, oI 0, oI 0, oI v, j83, j93, oU] [])) := by
    intro kS
    induction kS using Nat.strongRecOn with
    | _ kS ihS =>
     intro v ps fF eF fu TSL LSL hSL hkS hS XSL NSL eSL ZSL E_r0_SL F_receivers_r0_SL F_outboxes_r0_SL F_recipients_r0_SL F_delivered_r0_SL F_senders_r0_SL F_messages_r0_SL F_first_r0_SL F_end_r0_SL O_ob_SL B_0_SL B_1_SL E_rv_SL F_words_rv_SL F_held_rv_SL F_blocks_rv_SL F_sorted_rv_SL E_il_SL F_indices_il_SL F_size_il_SL A_ix_SL A_wd_SL A_hd_SL A_fa_SL A_ea_SL
     show oF (TSL.setTop (mkF m 348 #[oR r0, oI p1, .val (.long (own_tot (own_tot (0 : Int64) La) Lb)), oS, oI ps, oI 0, oI 0, oI v, j83, j93, oU] []))
     refine own_go (fun _ k => XS.iload XSL.here hx rfl (hb hby d9_348) rfl k) ?_
     by_cases hc13 : v < (0 : Int32)
     · refine own_go (fun _ k => XS.ifYes XSL.here hx rfl (pc0 := 350) (pc' := 406) rfl (hb hby d9_350) rfl ((if0 _ _).trans (tlt hc13).1) (by decide) (by decide) k) ?_
       show oF (TSL.setTop (mkF m 406 #[oR r0, oI p1, .val (.long (own_tot (own_tot (0 : Int64) La) Lb)), oS, oI ps, oI 0, oI 0, oI v, j83, j93, oU] []))
       refine own_go (fun _ k => XS.iinc XSL.here hx rfl (hb hby d9_406) rfl (l' := #[oR r0, oI p1, .val (.long (own_tot (own_tot (0 : Int64) La) Lb)), oS, oI ps, oI 1, oI 0, oI v, j83, j93, oU]) rfl k) ?_
       show oF (TSL.setTop (mkF m 409 #[oR r0, oI p1, .val (.long (own_tot (own_tot (0 : Int64) La) Lb)), oS, oI ps, oI 1, oI 0, oI v, j83, j93, oU] []))
       refine own_go (fun _ k => XS.goto XSL.here hx rfl (pc0 := 409) (pc' := 308) rfl (hb hby d9_409) (by decide) (by decide) (XS.iload XSL.here hx rfl (hb hby d9_308) rfl (XS.aloadN XSL.here hx rfl (hb hby d9_310) rfl rfl k))) ?_
       obtain ⟨T14, X14, e14, st14⟩ := getF XSL hx hZ hown (host := "") (Or.inl (oW hw 57 rfl)) Via.refl eSL F_recipients_r0_SL (g := (mkF m 311 #[oR r0, oI p1, .val (.long (own_tot (own_tot (0 : Int64) La) Lb)), oS, oI ps, oI 1, oI 0, oI v, j83, j93, oU] [(.ref r0), (.int 1)])) rfl rfl (hb hby d9_311)
       refine own_go (fun tg k => st14 tg k) ?_
       obtain ⟨cq15, kq15, q15a, q15b, q15c⟩ := isOf hZ e14 E_rv_SL
       obtain ⟨_, _, ⟨T15, L15, k15, n15⟩, -, X15, ⟨Lc15, hQ15, l15, y15, z15⟩, st15⟩ := X14.virtualBack hx (y := oM11) (z := oM11) hown (mvT hZ (oW hw 91 rfl)) (mvT hZ (oW hw 92 rfl)) (notFace_of_selects (args := #[]) (mvT hZ (oW hw 94 rfl))) (mvT hZ (oW hw 94 rfl)) (mvT hZ (oW hw 93 rfl)) (by decide) (backOf (W := 1) (rm10 l Z a0 hw [] rv il (1 : Int32) hSL n0 ZSL F_blocks_rv_SL E_il_SL F_size_il_SL) hZ (oW hw 95 rfl) (oW hw 28 rfl) (by decide) (by decide)) q15a q15c (g := (mkF m 314 #[oR r0, oI p1, .val (.long (own_tot (own_tot (0 : Int64) La) Lb)), oS, oI ps, oI 1, oI 0, oI v, j83, j93, oU] [(.ref rv), (.int 1)])) rfl (by rw [hml]; rfl) (Steps.refl _) (argsL := []) (rest := [(.int 1)]) (lenOf own_pd194 rfl) rfl (by show 2 * 0 + _ ≤ _; exact Nat.le_of_eq rfl) (hb hby d9_314) (fun _ _ => ⟨rfl, e14, (by decide : 2 + 0 ≤ _), (by decide : 8 + 0 ≤ _)⟩)
       dsimp only [Pt.U, Pt.locs, Pt.cells, Pt.slots] at X15 l15 y15 z15 st15 hQ15
       replace y15 : 2 = k15 := y15.symm
       replace z15 : 8 = n15 := z15.symm
       subst y15 z15
       obtain ⟨rfl, N15q, e15⟩ := hQ15
       have N15 : Fr n0 L15 := by rw [l15]; exact Fr.app NSL N15q
       refine own_go (fun tg k => st15.trans k) ?_
       show oF (T15.setTop (mkF m 317 #[oR r0, oI p1, .val (.long (own_tot (own_tot (0 : Int64) La) Lb)), oS, oI ps, oI 1, oI 0, oI v, j83, j93, oU] [(.int 1), (.int 1)]))
       refine own_go (fun _ k => XS.icmpYes X15.here hx rfl (pc0 := 317) (pc' := 412) rfl (hb hby d9_317) rfl (flt (by decide)).2.1 (by decide) (by decide) k) ?_
       show oF (T15.setTop (mkF m 412 #[oR r0, oI p1, .val (.long (own_tot (own_tot (0 : Int64) La) Lb)), oS, oI ps, oI 1, oI 0, oI v, j83, j93, oU] []))
       refine own_go (fun _ k => XS.aloadN X15.here hx rfl (hb hby d9_412) rfl rfl (XS.aloadN X15.here hx rfl (hb hby d9_413) rfl rfl k)) ?_
       obtain ⟨T16, X16, e16, st16⟩ := getF X15 hx hZ hown (host := "") (Or.inl (oW hw 115 rfl)) Via.refl e15 F_delivered_r0_SL (g := (mkF m 414 #[oR r0, oI p1, .val (.long (own_tot (own_tot (0 : Int64) La) Lb)), oS, oI ps, oI 1, oI 0, oI v, j83, j93, oU] [(.ref r0), (.ref r0)])) rfl rfl (hb hby d9_414)
       refine own_go (fun tg k => st16 tg k) ?_
       obtain ⟨T17, h17, k17, X17, e17, E17, A17, st17⟩ := newP X16 hx hZ (oW hw 44 rfl) e16 (g := (mkF m 417 #[oR r0, oI p1, .val (.long (own_tot (own_tot (0 : Int64) La) Lb)), oS, oI ps, oI 1, oI 0, oI v, j83, j93, oU] [(.int ((own_tot (own_tot (0 : Int64) La) Lb).toInt32)), (.ref r0)])) rfl (hb hby d9_417) rfl (own_dl0 hl) (cap := 4) (own_dl1 hl) (by decide) (by decide) (by decide)
       obtain ⟨b17, g17⟩ : ∃ z, z = hSL.size := ⟨_, rfl⟩
       rw [← g17] at A17 st17
       have ne_r0_b17 : r0 ≠ b17 := Nat.ne_of_lt (Nat.lt_of_lt_of_le E_r0_SL.lt (Nat.le_of_eq g17.symm))
       have ne_ob_b17 : ob ≠ b17 := Nat.ne_of_lt (Nat.lt_of_lt_of_le O_ob_SL.lt (Nat.le_of_eq g17.symm))
       have ne_rv_b17 : rv ≠ b17 := Nat.ne_of_lt (Nat.lt_of_lt_of_le E_rv_SL.lt (Nat.le_of_eq g17.symm))
       have ne_il_b17 : il ≠ b17 := Nat.ne_of_lt (Nat.lt_of_lt_of_le E_il_SL.lt (Nat.le_of_eq g17.symm))
       have ne_ix_b17 : ix ≠ b17 := Nat.ne_of_lt (Nat.lt_of_lt_of_le A_ix_SL.lt (Nat.le_of_eq g17.symm))
       have ne_wd_b17 : wd ≠ b17 := Nat.ne_of_lt (Nat.lt_of_lt_of_le A_wd_SL.lt (Nat.le_of_eq g17.symm))
       have ne_hd_b17 : hd ≠ b17 := Nat.ne_of_lt (Nat.lt_of_lt_of_le A_hd_SL.lt (Nat.le_of_eq g17.symm))
       have ne_fa_b17 : fa ≠ b17 := Nat.ne_of_lt (Nat.lt_of_lt_of_le A_fa_SL.lt (Nat.le_of_eq g17.symm))
       have ne_ea_b17 : ea ≠ b17 := Nat.ne_of_lt (Nat.lt_of_lt_of_le A_ea_SL.lt (Nat.le_of_eq g17.symm))
       have nb_b17_0 : b17 ∉ Da := B_0_SL.nin (Nat.le_of_eq g17.symm)
       have nb_b17_1 : b17 ∉ Db := B_1_SL.nin (Nat.le_of_eq g17.symm)
       have ge_b17 : n0 ≤ b17 := Nat.le_trans ZSL (Nat.le_of_eq g17.symm)
       have E_r0_17 := E_r0_SL.ext E17
       have F_receivers_r0_17 := F_receivers_r0_SL.ext E17
       have F_outboxes_r0_17 := F_outboxes_r0_SL.ext E17
       have F_recipients_r0_17 := F_recipients_r0_SL.ext E17
       have F_delivered_r0_17 := F_delivered_r0_SL.ext E17
       have F_senders_r0_17 := F_senders_r0_SL.ext E17
       have F_messages_r0_17 := F_messages_r0_SL.ext E17
       have F_first_r0_17 := F_first_r0_SL.ext E17
       have F_end_r0_17 := F_end_r0_SL.ext E17
       have O_ob_17 := O_ob_SL.ext E17
       have B_0_17 := B_0_SL.ext E17
       have B_1_17 := B_1_SL.ext E17
       have E_rv_17 := E_rv_SL.ext E17
       have F_words_rv_17 := F_words_rv_SL.ext E17
       have F_held_rv_17 := F_held_rv_SL.ext E17
       have F_blocks_rv_17 := F_blocks_rv_SL.ext E17
       have F_sorted_rv_17 := F_sorted_rv_SL.ext E17
       have E_il_17 := E_il_SL.ext E17
       have F_indices_il_17 := F_indices_il_SL.ext E17
       have F_size_il_17 := F_size_il_SL.ext E17
       have A_ix_17 := A_ix_SL.ext E17
       have A_wd_17 := A_wd_SL.ext E17
       have A_hd_17 := A_hd_SL.ext E17
       have A_fa_17 := A_fa_SL.ext E17
       have A_ea_17 := A_ea_SL.ext E17
       have Z17 : n0 ≤ h17.size := Nat.le_trans ZSL E17.1
       have A_b17_17 : own_Arf Z h17 b17 .int ((own_tot (own_tot (0 : Int64) La) Lb).toInt32) (fun i => .int ((fun _ => (0 : Int32)) i)) := own_Arf.new A17 (own_dl0 hl)
       refine own_go (fun tg k => st17 tg k) ?_
       obtain ⟨T18, h18, X18, e18, W18, st18⟩ := putF X17 hx hZ hown (host := "") (Or.inl (oW hw 117 rfl)) Via.refl e17 F_senders_r0_17 E_r0_17 (Or.inl (oW hw 118 rfl)) (oW hw 2 rfl) (ty := (.array .int)) (by decide) rfl rfl (g := (mkF m 419 #[oR r0, oI p1, .val (.long (own_tot (own_tot (0 : Int64) La) Lb)), oS, oI ps, oI 1, oI 0, oI v, j83, j93, oU] [(.ref b17), (.ref r0)])) rfl rfl (hb hby d9_419)
       have E_r0_18 := E_r0_17.wr W18
       have F_receivers_r0_18 := F_receivers_r0_17.other W18 (Or.inr (own_sn505 hw))
       have F_outboxes_r0_18 := F_outboxes_r0_17.other W18 (Or.inr (own_sn506 hw))
       have F_recipients_r0_18 := F_recipients_r0_17.other W18 (Or.inr (own_sn507 hw))
       have F_delivered_r0_18 := F_delivered_r0_17.other W18 (Or.inr (own_sn508 hw))
       have F_messages_r0_18 := F_messages_r0_17.other W18 (Or.inr (own_sn509 hw))
       have F_first_r0_18 := F_first_r0_17.other W18 (Or.inr (own_sn510 hw))
       have F_end_r0_18 := F_end_r0_17.other W18 (Or.inr (own_sn511 hw))
       have O_ob_18 := O_ob_17.other W18 (Ne.symm (own_ne_oa E_r0_17 (oW hw 2 rfl) O_ob_17))
       have B_0_18 := B_0_17.other W18 nb_r0_0
       have B_1_18 := B_1_17.other W18 nb_r0_1
       have E_rv_18 := E_rv_17.wr W18
       have u18_rv := (ne_exa E_rv_17 E_r0_17 (by decide))
       have F_words_rv_18 := F_words_rv_17.other W18 (Or.inl u18_rv)
       have F_held_rv_18 := F_held_rv_17.other W18 (Or.inl u18_rv)
       have F_blocks_rv_18 := F_blocks_rv_17.other W18 (Or.inl u18_rv)
       have F_sorted_rv_18 := F_sorted_rv_17.other W18 (Or.inl u18_rv)
       have E_il_18 := E_il_17.wr W18
       have u18_il := (ne_exa E_il_17 E_r0_17 (by decide))
       have F_indices_il_18 := F_indices_il_17.other W18 (Or.inl u18_il)
       have F_size_il_18 := F_size_il_17.other W18 (Or.inl u18_il)
       have A_ix_18 := A_ix_17.other W18 (Ne.symm (own_ne_arf E_r0_17 (oW hw 2 rfl) A_ix_17))
       have A_wd_18 := A_wd_17.other W18 (Ne.symm (own_ne_arf E_r0_17 (oW hw 2 rfl) A_wd_17))
       have A_hd_18 := A_hd_17.other W18 (Ne.symm (own_ne_arf E_r0_17 (oW hw 2 rfl) A_hd_17))
       have A_fa_18 := A_fa_17.other W18 (Ne.symm (own_ne_arf E_r0_17 (oW hw 2 rfl) A_fa_17))
       have A_ea_18 := A_ea_17.other W18 (Ne.symm (own_ne_arf E_r0_17 (oW hw 2 rfl) A_ea_17))
       have A_b17_18 := A_b17_17.other W18 (Ne.symm ne_r0_b17)
       have N18 := Fr.snoc X18 N15 ge_r0
       have Z18 : n0 ≤ h18.size := Nat.le_trans Z17 (Keep.of_wr W18).1
       have F_senders_r0_18 := F_senders_r0_17.same W18
       refine own_go (fun tg k => st18 tg k) ?_
       refine own_go (fun _ k => XS.aloadN X18.here hx rfl (hb hby d9_422) rfl rfl (XS.aloadN X18.here hx rfl (hb hby d9_423) rfl rfl k)) ?_
       obtain ⟨T19, X19, e19, st19⟩ := getF X18 hx hZ hown (host := "") (Or.inl (oW hw 115 rfl)) Via.refl e18 F_delivered_r0_18 (g := (mkF m 424 #[oR r0, oI p1, .val (.long (own_tot (own_tot (0 : Int64) La) Lb)), oS, oI ps, oI 1, oI 0, oI v, j83, j93, oU] [(.ref r0), (.ref r0)])) rfl rfl (hb hby d9_424)
       refine own_go (fun tg k => st19 tg k) ?_
       obtain ⟨T20, h20, k20, X20, e20, E20, A20, st20⟩ := newP X19 hx hZ (oW hw 51 rfl) e19 (g := (mkF m 427 #[oR r0, oI p1, .val (.long (own_tot (own_tot (0 : Int64) La) Lb)), oS, oI ps, oI 1, oI 0, oI v, j83, j93, oU] [(.int ((own_tot (own_tot (0 : Int64) La) Lb).toInt32)), (.ref r0)])) rfl (hb hby d9_427) rfl (own_dl0 hl) (cap := 4) (own_dl1 hl) (by decide) (by decide) (by decide)
       obtain ⟨b20, g20⟩ : ∃ z, z = h18.size := ⟨_, rfl⟩
       rw [← g20] at A20 st20
       have ne_r0_b20 : r0 ≠ b20 := Nat.ne_of_lt (Nat.lt_of_lt_of_le E_r0_18.lt (Nat.le_of_eq g20.symm))
       have ne_ob_b20 : ob ≠ b20 := Nat.ne_of_lt (Nat.lt_of_lt_of_le O_ob_18.lt (Nat.le_of_eq g20.symm))
       have ne_rv_b20 : rv ≠ b20 := Nat.ne_of_lt (Nat.lt_of_lt_of_le E_rv_18.lt (Nat.le_of_eq g20.symm))
       have ne_il_b20 : il ≠ b20 := Nat.ne_of_lt (Nat.lt_of_lt_of_le E_il_18.lt (Nat.le_of_eq g20.symm))
       have ne_ix_b20 : ix ≠ b20 := Nat.ne_of_lt (Nat.lt_of_lt_of_le A_ix_18.lt (Nat.le_of_eq g20.symm))
       have ne_wd_b20 : wd ≠ b20 := Nat.ne_of_lt (Nat.lt_of_lt_of_le A_wd_18.lt (Nat.le_of_eq g20.symm))
       have ne_hd_b20 : hd ≠ b20 := Nat.ne_of_lt (Nat.lt_of_lt_of_le A_hd_18.lt (Nat.le_of_eq g20.symm))
       have ne_fa_b20 : fa ≠ b20 := Nat.ne_of_lt (Nat.lt_of_lt_of_le A_fa_18.lt (Nat.le_of_eq g20.symm))
       have ne_ea_b20 : ea ≠ b20 := Nat.ne_of_lt (Nat.lt_of_lt_of_le A_ea_18.lt (Nat.le_of_eq g20.symm))
       have ne_b17_b20 : b17 ≠ b20 := Nat.ne_of_lt (Nat.lt_of_lt_of_le A_b17_18.lt (Nat.le_of_eq g20.symm))
       have nb_b20_0 : b20 ∉ Da := B_0_18.nin (Nat.le_of_eq g20.symm)
       have nb_b20_1 : b20 ∉ Db := B_1_18.nin (Nat.le_of_eq g20.symm)
       have ge_b20 : n0 ≤ b20 := Nat.le_trans Z18 (Nat.le_of_eq g20.symm)
       have E_r0_20 := E_r0_18.ext E20
       have F_receivers_r0_20 := F_receivers_r0_18.ext E20
       have F_outboxes_r0_20 := F_outboxes_r0_18.ext E20
       have F_recipients_r0_20 := F_recipients_r0_18.ext E20
       have F_delivered_r0_20 := F_delivered_r0_18.ext E20
       have F_senders_r0_20 := F_senders_r0_18.ext E20
       have F_messages_r0_20 := F_messages_r0_18.ext E20
       have F_first_r0_20 := F_first_r0_18.ext E20
       have F_end_r0_20 := F_end_r0_18.ext E20
       have O_ob_20 := O_ob_18.ext E20
       have B_0_20 := B_0_18.ext E20
       have B_1_20 := B_1_18.ext E20
       have E_rv_20 := E_rv_18.ext E20
       have F_words_rv_20 := F_words_rv_18.ext E20
       have F_held_rv_20 := F_held_rv_18.ext E20
       have F_blocks_rv_20 := F_blocks_rv_18.ext E20
       have F_sorted_rv_20 := F_sorted_rv_18.ext E20
       have E_il_20 := E_il_18.ext E20
       have F_indices_il_20 := F_indices_il_18.ext E20
       have F_size_il_20 := F_size_il_18.ext E20
       have A_ix_20 := A_ix_18.ext E20
       have A_wd_20 := A_wd_18.ext E20
       have A_hd_20 := A_hd_18.ext E20
       have A_fa_20 := A_fa_18.ext E20
       have A_ea_20 := A_ea_18.ext E20
       have A_b17_20 := A_b17_18.ext E20
       have Z20 : n0 ≤ h20.size := Nat.le_trans Z18 E20.1
       have A_b20_20 : own_Arf Z h20 b20 .long ((own_tot (own_tot (0 : Int64) La) Lb).toInt32) (fun i => .long ((fun _ => (0 : Int64)) i)) := own_Arf.new A20 (own_dl0 hl)
       refine own_go (fun tg k => st20 tg k) ?_
       obtain ⟨T21, h21, X21, e21, W21, st21⟩ := putF X20 hx hZ hown (host := "") (Or.inl (oW hw 119 rfl)) Via.refl e20 F_messages_r0_20 E_r0_20 (Or.inl (oW hw 120 rfl)) (oW hw 2 rfl) (ty := (.array .long)) (by decide) rfl rfl (g := (mkF m 429 #[oR r0, oI p1, .val (.long (own_tot (own_tot (0 : Int64) La) Lb)), oS, oI ps, oI 1, oI 0, oI v, j83, j93, oU] [(.ref b20), (.ref r0)])) rfl rfl (hb hby d9_429)
       have E_r0_21 := E_r0_20.wr W21
       have F_receivers_r0_21 := F_receivers_r0_20.other W21 (Or.inr (own_sn512 hw))
       have F_outboxes_r0_21 := F_outboxes_r0_20.other W21 (Or.inr (own_sn513 hw))
       have F_recipients_r0_21 := F_recipients_r0_20.other W21 (Or.inr (own_sn514 hw))
       have F_delivered_r0_21 := F_delivered_r0_20.other W21 (Or.inr (own_sn515 hw))
       have F_senders_r0_21 := F_senders_r0_20.other W21 (Or.inr (own_sn516 hw))
       have F_first_r0_21 := F_first_r0_20.other W21 (Or.inr (own_sn517 hw))
       have F_end_r0_21 := F_end_r0_20.other W21 (Or.inr (own_sn518 hw))
       have O_ob_21 := O_ob_20.other W21 (Ne.symm (own_ne_oa E_r0_20 (oW hw 2 rfl) O_ob_20))
       have B_0_21 := B_0_20.other W21 nb_r0_0
       have B_1_21 := B_1_20.other W21 nb_r0_1
       have E_rv_21 := E_rv_20.wr W21
       have u21_rv := (ne_exa E_rv_20 E_r0_20 (by decide))
       have F_words_rv_21 := F_words_rv_20.other W21 (Or.inl u21_rv)
       have F_held_rv_21 := F_held_rv_20.other W21 (Or.inl u21_rv)
       have F_blocks_rv_21 := F_blocks_rv_20.other W21 (Or.inl u21_rv)
       have F_sorted_rv_21 := F_sorted_rv_20.other W21 (Or.inl u21_rv)
       have E_il_21 := E_il_20.wr W21
       have u21_il := (ne_exa E_il_20 E_r0_20 (by decide))
       have F_indices_il_21 := F_indices_il_20.other W21 (Or.inl u21_il)
       have F_size_il_21 := F_size_il_20.other W21 (Or.inl u21_il)
       have A_ix_21 := A_ix_20.other W21 (Ne.symm (own_ne_arf E_r0_20 (oW hw 2 rfl) A_ix_20))
       have A_wd_21 := A_wd_20.other W21 (Ne.symm (own_ne_arf E_r0_20 (oW hw 2 rfl) A_wd_20))
       have A_hd_21 := A_hd_20.other W21 (Ne.symm (own_ne_arf E_r0_20 (oW hw 2 rfl) A_hd_20))
       have A_fa_21 := A_fa_20.other W21 (Ne.symm (own_ne_arf E_r0_20 (oW hw 2 rfl) A_fa_20))
       have A_ea_21 := A_ea_20.other W21 (Ne.symm (own_ne_arf E_r0_20 (oW hw 2 rfl) A_ea_20))
       have A_b17_21 := A_b17_20.other W21 (Ne.symm ne_r0_b17)
       have A_b20_21 := A_b20_20.other W21 (Ne.symm ne_r0_b20)
       have N21 := Fr.snoc X21 N18 ge_r0
       have Z21 : n0 ≤ h21.size := Nat.le_trans Z20 (Keep.of_wr W21).1
       have F_messages_r0_21 := F_messages_r0_20.same W21
       refine own_go (fun tg k => st21 tg k) ?_
       refine own_go (fun _ k => XS.aloadN X21.here hx rfl (hb hby d9_432) rfl rfl k) ?_
       obtain ⟨T22, X22, e22, st22⟩ := getF X21 hx hZ hown (host := "") (Or.inl (oW hw 24 rfl)) Via.refl e21 F_outboxes_r0_21 (g := (mkF m 433 #[oR r0, oI p1, .val (.long (own_tot (own_tot (0 : Int64) La) Lb)), oS, oI ps, oI 1, oI 0, oI v, j83, j93, oU] [(.ref r0)])) rfl rfl (hb hby d9_433)
       refine own_go (fun tg k => st22 tg k) ?_
       refine own_go (fun _ k => XS.astore X22.here hx rfl (hb hby d9_436) rfl rfl (l' := #[oR r0, oI p1, .val (.long (own_tot (own_tot (0 : Int64) La) Lb)), oS, oI ps, oR ob, oI 0, oI v, j83, j93, oU]) rfl (XS.aload X22.here hx rfl (hb hby d9_438) rfl rfl k)) ?_
       refine own_go (fun tg k => own_oalen X22 hx hZ e22 O_ob_21 (g := (mkF m 440 #[oR r0, oI p1, .val (.long (own_tot (own_tot (0 : Int64) La) Lb)), oS, oI ps, oR ob, oI 0, oI v, j83, j93, oU] [(.ref ob)])) rfl rfl (hb hby d9_440) tg k) ?_
       refine own_go (fun _ k => XS.istore X22.here hx rfl (hb hby d9_441) rfl (l' := #[oR r0, oI p1, .val (.long (own_tot (own_tot (0 : Int64) La) Lb)), oS, oI ps, oR ob, oI 2, oI v, j83, j93, oU]) rfl (XS.iconst X22.here hx rfl (hb hby d9_443) (XS.istore X22.here hx rfl (hb hby d9_444) rfl (l' := #[oR r0, oI p1, .val (.long (own_tot (own_tot (0 : Int64) La) Lb)), oS, oI ps, oR ob, oI 2, oI 0, j83, j93, oU]) rfl (XS.iload X22.here hx rfl (hb hby d9_446) rfl (XS.iload X22.here hx rfl (hb hby d9_448) rfl (XS.icmpNo X22.here hx rfl (hb hby d9_450) rfl (tlt (by decide)).2.1 (XS.aload X22.here hx rfl (hb hby d9_453) rfl rfl (XS.iload X22.here hx rfl (hb hby d9_455) rfl k)))))))) ?_
       refine own_go (fun tg k => own_oald X22 hx hZ e22 O_ob_21 (v := v0) (Or.inl ⟨rfl, rfl⟩) (g := (mkF m 457 #[oR r0, oI p1, .val (.long (own_tot (own_tot (0 : Int64) La) Lb)), oS, oI ps, oR ob, oI 2, oI 0, j83, j93, oU] [(.int 0), (.ref ob)])) rfl rfl (hb hby d9_457) tg k) ?_
       show oF (T22.setTop (mkF m 458 #[oR r0, oI p1, .val (.long (own_tot (own_tot (0 : Int64) La) Lb)), oS, oI ps, oR ob, oI 2, oI 0, j83, j93, oU] [v0]))
       have hk23 : ∀ (sX : Nat → Int32) (mX : Nat → Int64) (T23L : State) (L23L : List Loc) (h23L : Heap) (j823 : Slot) (j923 : Slot) (j1023 : Slot), Stand p l e rm9t_room s m #[(.ref r0), (.int p1)] below meth c T23L L23L 4 16 → Fr n0 L23L → T23L.heap = h23L → One j823 → One j923 → One j1023 → n0 ≤ h23L.size → Exa Z h23L r0 oC0 → Fld Z h23L r0 oC0 "receivers" "I" (.int n) → Fld Z h23L r0 oC0 "outboxes" oC4 (.ref ob) → Fld Z h23L r0 oC0 "recipients" oC6 (.ref rv) → Fld Z h23L r0 oC0 "delivered" "I" (.int ((own_tot (own_tot (0 : Int64) La) Lb).toInt32)) → Fld Z h23L r0 oC0 "senders" "[I" (.ref b17) → Fld Z h23L r0 oC0 "messages" "[J" (.ref b20) → Fld Z h23L r0 oC0 "first" "[I" (.ref fa) → Fld Z h23L r0 oC0 "end" "[I" (.ref ea) → own_Oa Z h23L ob oC2 v0 v1 → own_Box Z h23L n0 v0 Da [] → own_Box Z h23L n0 v1 Db Lb → Exa Z h23L rv oC1 → Fld Z h23L rv oC1 "words" "[J" (.ref wd) → Fld Z h23L rv oC1 "held" "[Z" (.ref hd) → Fld Z h23L rv oC1 "blocks" oC5 (.ref il) → Fld Z h23L rv oC1 "sorted" "Z" (.int 1) → Exa Z h23L il oC3 → Fld Z h23L il oC3 "indices" "[I" (.ref ix) → Fld Z h23L il oC3 "size" "I" (.int 1) → own_Arf Z h23L ix .int (16 : Int32) (fun i => .int ((own_gi (own_b (0 : Int32) La) (own_gi (0 : Int32) fi La) Lb) i)) → own_Arf Z h23L wd .long (16 : Int32) (fun i => .long ((own_w0 (own_or (own_or (0 : Int64) La) Lb)) i)) → own_Arf Z h23L hd .boolean (1 : Int32) (fun i => .int ((fun _ => (1 : Int32)) i)) → own_Arf Z h23L fa .int n (fun i => .int (fF i)) → own_Arf Z h23L ea .int n (fun i => .int ((own_cnt eF La) i)) → own_Arf Z h23L b17 .int ((own_tot (own_tot (0 : Int64) La) Lb).toInt32) (fun i => .int (sX i)) → own_Arf Z h23L b20 .long ((own_tot (own_tot (0 : Int64) La) Lb).toInt32) (fun i => .long (mX i)) → own_Fin p.tables e below s (Qrm9t Z r0 p1 n ob rv fa ea v0 v1 Da Db La Lb wd hd il ix fi h0 n0) rm9t_room.cells rm9t_room.slots (T23L.setTop (mkF m 540 #[oR r0, oI p1, .val (.long (own_tot (own_tot (0 : Int64) La) Lb)), oS, oI ps, oR ob, oI 2, oI 0, j823, j923, j1023] [])) := by
        intro sX mX T23L L23L h23L j823 j923 j1023 X23L N23L e23L hj823 hj923 hj1023 Z23L E_r0_23L F_receivers_r0_23L F_outboxes_r0_23L F_recipients_r0_23L F_delivered_r0_23L F_senders_r0_23L F_messages_r0_23L F_first_r0_23L F_end_r0_23L O_ob_23L B_0_23L B_1_23L E_rv_23L F_words_rv_23L F_held_rv_23L F_blocks_rv_23L F_sorted_rv_23L E_il_23L F_indices_il_23L F_size_il_23L A_ix_23L A_wd_23L A_hd_23L A_fa_23L A_ea_23L A_b17_23L A_b20_23L
        show oF (T23L.setTop (mkF m 540 #[oR r0, oI p1, .val (.long (own_tot (own_tot (0 : Int64) La) Lb)), oS, oI ps, oR ob, oI 2, oI 0, j823, j923, j1023] []))
        refine own_go (fun _ k => XS.iinc X23L.here hx rfl (hb hby d9_540) rfl (l' := #[oR r0, oI p1, .val (.long (own_tot (own_tot (0 : Int64) La) Lb)), oS, oI ps, oR ob, oI 2, oI 1, j823, j923, j1023]) rfl k) ?_
        show oF (T23L.setTop (mkF m 543 #[oR r0, oI p1, .val (.long (own_tot (own_tot (0 : Int64) La) Lb)), oS, oI ps, oR ob, oI 2, oI 1, j823, j923, j1023] []))
        refine own_go (fun _ k => XS.goto X23L.here hx rfl (pc0 := 543) (pc' := 446) rfl (hb hby d9_543) (by decide) (by decide) (XS.iload X23L.here hx rfl (hb hby d9_446) rfl (XS.iload X23L.here hx rfl (hb hby d9_448) rfl (XS.icmpNo X23L.here hx rfl (hb hby d9_450) rfl (tlt (by decide)).2.1 (XS.aload X23L.here hx rfl (hb hby d9_453) rfl rfl (XS.iload X23L.here hx rfl (hb hby d9_455) rfl k)))))) ?_
        refine own_go (fun tg k => own_oald X23L hx hZ e23L O_ob_23L (v := v1) (Or.inr ⟨rfl, rfl⟩) (g := (mkF m 457 #[oR r0, oI p1, .val (.long (own_tot (own_tot (0 : Int64) La) Lb)), oS, oI ps, oR ob, oI 2, oI 1, j823, j923, j1023] [(.int 1), (.ref ob)])) rfl rfl (hb hby d9_457) tg k) ?_
        show oF (T23L.setTop (mkF m 458 #[oR r0, oI p1, .val (.long (own_tot (own_tot (0 : Int64) La) Lb)), oS, oI ps, oR ob, oI 2, oI 1, j823, j923, j1023] [v1]))
        have hk24 : ∀ (sX : Nat → Int32) (mX : Nat → Int64) (T24L : State) (L24L : List Loc) (h24L : Heap) (j824 : Slot) (j924 : Slot) (j1024 : Slot), Stand p l e rm9t_room s m #[(.ref r0), (.int p1)] below meth c T24L L24L 4 16 → Fr n0 L24L → T24L.heap = h24L → One j824 → One j924 → One j1024 → n0 ≤ h24L.size → Exa Z h24L r0 oC0 → Fld Z h24L r0 oC0 "receivers" "I" (.int n) → Fld Z h24L r0 oC0 "outboxes" oC4 (.ref ob) → Fld Z h24L r0 oC0 "recipients" oC6 (.ref rv) → Fld Z h24L r0 oC0 "delivered" "I" (.int ((own_tot (own_tot (0 : Int64) La) Lb).toInt32)) → Fld Z h24L r0 oC0 "senders" "[I" (.ref b17) → Fld Z h24L r0 oC0 "messages" "[J" (.ref b20) → Fld Z h24L r0 oC0 "first" "[I" (.ref fa) → Fld Z h24L r0 oC0 "end" "[I" (.ref ea) → own_Oa Z h24L ob oC2 v0 v1 → own_Box Z h24L n0 v0 Da [] → own_Box Z h24L n0 v1 Db [] → Exa Z h24L rv oC1 → Fld Z h24L rv oC1 "words" "[J" (.ref wd) → Fld Z h24L rv oC1 "held" "[Z" (.ref hd) → Fld Z h24L rv oC1 "blocks" oC5 (.ref il) → Fld Z h24L rv oC1 "sorted" "Z" (.int 1) → Exa Z h24L il oC3 → Fld Z h24L il oC3 "indices" "[I" (.ref ix) → Fld Z h24L il oC3 "size" "I" (.int 1) → own_Arf Z h24L ix .int (16 : Int32) (fun i => .int ((own_gi (own_b (0 : Int32) La) (own_gi (0 : Int32) fi La) Lb) i)) → own_Arf Z h24L wd .long (16 : Int32) (fun i => .long ((own_w0 (own_or (own_or (0 : Int64) La) Lb)) i)) → own_Arf Z h24L hd .boolean (1 : Int32) (fun i => .int ((fun _ => (1 : Int32)) i)) → own_Arf Z h24L fa .int n (fun i => .int (fF i)) → own_Arf Z h24L ea .int n (fun i => .int ((own_cnt (own_cnt eF La) Lb) i)) → own_Arf Z h24L b17 .int ((own_tot (own_tot (0 : Int64) La) Lb).toInt32) (fun i => .int (sX i)) → own_Arf Z h24L b20 .long ((own_tot (own_tot (0 : Int64) La) Lb).toInt32) (fun i => .long (mX i)) → own_Fin p.tables e below s (Qrm9t Z r0 p1 n ob rv fa ea v0 v1 Da Db La Lb wd hd il ix fi h0 n0) rm9t_room.cells rm9t_room.slots (T24L.setTop (mkF m 540 #[oR r0, oI p1, .val (.long (own_tot (own_tot (0 : Int64) La) Lb)), oS, oI ps, oR ob, oI 2, oI 1, j824, j924, j1024] [])) := by
         intro sX mX T24L L24L h24L j824 j924 j1024 X24L N24L e24L hj824 hj924 hj1024 Z24L E_r0_24L F_receivers_r0_24L F_outboxes_r0_24L F_recipients_r0_24L F_delivered_r0_24L F_senders_r0_24L F_messages_r0_24L F_first_r0_24L F_end_r0_24L O_ob_24L B_0_24L B_1_24L E_rv_24L F_words_rv_24L F_held_rv_24L F_blocks_rv_24L F_sorted_rv_24L E_il_24L F_indices_il_24L F_size_il_24L A_ix_24L A_wd_24L A_hd_24L A_fa_24L A_ea_24L A_b17_24L A_b20_24L
         show oF (T24L.setTop (mkF m 540 #[oR r0, oI p1, .val (.long (own_tot (own_tot (0 : Int64) La) Lb)), oS, oI ps, oR ob, oI 2, oI 1, j824, j924, j1024] []))
         refine own_go (fun _ k => XS.iinc X24L.here hx rfl (hb hby d9_540) rfl (l' := #[oR r0, oI p1, .val (.long (own_tot (own_tot (0 : Int64) La) Lb)), oS, oI ps, oR ob, oI 2, oI 2, j824, j924, j1024]) rfl k) ?_
         show oF (T24L.setTop (mkF m 543 #[oR r0, oI p1, .val (.long (own_tot (own_tot (0 : Int64) La) Lb)), oS, oI ps, oR ob, oI 2, oI 2, j824, j924, j1024] []))
         refine own_go (fun _ k => XS.goto X24L.here hx rfl (pc0 := 543) (pc' := 446) rfl (hb hby d9_543) (by decide) (by decide) (XS.iload X24L.here hx rfl (hb hby d9_446) rfl (XS.iload X24L.here hx rfl (hb hby d9_448) rfl (XS.icmpYes X24L.here hx rfl (pc0 := 450) (pc' := 546) rfl (hb hby d9_450) rfl (flt (by decide)).2.1 (by decide) (by decide) k)))) ?_
         show oF (T24L.setTop (mkF m 546 #[oR r0, oI p1, .val (.long (own_tot (own_tot (0 : Int64) La) Lb)), oS, oI ps, oR ob, oI 2, oI 2, j824, j924, j1024] []))
         refine own_go (fun _ k => XS.iconst X24L.here hx rfl (hb hby d9_546) k) ?_
         refine own_ret X24L hx hlk hret rfl (Or.inl ⟨rfl, by simp, _, rfl⟩) (hb hby d9_547) (Nat.le_of_ble_eq_true rfl) (Nat.le_of_ble_eq_true rfl) ?_
         rw [e24L]
         refine ⟨((own_tot (own_tot (0 : Int64) La) Lb).toInt32), (.ref b17), (.ref b20), fa, ea, (own_w0 (own_or (own_or (0 : Int64) La) Lb)), (own_gi (own_b (0 : Int32) La) (own_gi (0 : Int32) fi La) Lb), ?_, N24L, (by have q : s.heap.size ≤ T24L.heap.size := X24L.same.2.1; rw [hh, e24L] at q; exact q), E_r0_24L, ?_, ?_, ?_, ?_, ?_, ?_, ?_, ?_, ?_, ?_, ?_, E_rv_24L, ?_, ?_, ?_, ?_, E_il_24L, ?_, ?_, ?_, ?_, ?_, ?_, ?_, ne_fa_ea, ne_ix_fa, ne_ix_ea, ge_fa, ge_ea, nb_fa_0, nb_fa_1, nb_ea_0, nb_ea_1, ?_⟩
         · rfl
         · first | (exact F_receivers_r0_24L) | (simp only [if_pos hc13]; exact F_receivers_r0_24L)
         · first | (exact F_outboxes_r0_24L) | (simp only [if_pos hc13]; exact F_outboxes_r0_24L)
         · first | (exact F_recipients_r0_24L) | (simp only [if_pos hc13]; exact F_recipients_r0_24L)
         · first | (exact F_delivered_r0_24L) | (simp only [if_pos hc13]; exact F_delivered_r0_24L)
         · first | (exact F_senders_r0_24L) | (simp only [if_pos hc13]; exact F_senders_r0_24L)
         · first | (exact F_messages_r0_24L) | (simp only [if_pos hc13]; exact F_messages_r0_24L)
         · first | (exact F_first_r0_24L) | (simp only [if_pos hc13]; exact F_first_r0_24L)
         · first | (exact F_end_r0_24L) | (simp only [if_pos hc13]; exact F_end_r0_24L)
         · first | (exact O_ob_24L) | (simp only [if_pos hc13]; exact O_ob_24L)
         · first | (exact B_0_24L) | (simp only [if_pos hc13]; exact B_0_24L)
         · first | (exact B_1_24L) | (simp only [if_pos hc13]; exact B_1_24L)
         · first | (exact F_words_rv_24L) | (simp only [if_pos hc13]; exact F_words_rv_24L)
         · first | (exact F_held_rv_24L) | (simp only [if_pos hc13]; exact F_held_rv_24L)
         · first | (exact F_blocks_rv_24L) | (simp only [if_pos hc13]; exact F_blocks_rv_24L)
         · first | (exact F_sorted_rv_24L) | (simp only [if_pos hc13]; exact F_sorted_rv_24L)
         · first | (exact F_indices_il_24L) | (simp only [if_pos hc13]; exact F_indices_il_24L)
         · first | (exact F_size_il_24L) | (simp only [if_pos hc13]; exact F_size_il_24L)
         · first | (exact A_wd_24L) | (simp only [if_pos hc13]; exact A_wd_24L)
         · first | (exact A_hd_24L) | (simp only [if_pos hc13]; exact A_hd_24L)
         · first | (exact A_ix_24L) | (simp only [if_pos hc13]; exact A_ix_24L)
         · ( rw [own_FFx hS hc13]; exact A_fa_24L)
         · ( rw [own_EEx hS hc13]; exact A_ea_24L)
         · first | (exact hf2) | (simp only [if_pos hc13]; exact hf2)
        obtain ⟨hl25, ⟨hv25, hD25, hL25⟩ | ⟨xa25, xb25, xc25, xd25, q125, gg25, q325, hv25, hD25, hB25, hg25⟩⟩ := id B_1_23L
        · refine own_vr hv25 ?_
          show oF (T23L.setTop (mkF m 458 #[oR r0, oI p1, .val (.long (own_tot (own_tot (0 : Int64) La) Lb)), oS, oI ps, oR ob, oI 2, oI 1, j823, j923, j1023] [.null]))
          refine own_go (fun _ k => XS.astoreS X23L.here hx rfl (hb hby d9_458) rfl rfl rfl rfl hj823 (XS.aload X23L.here hx rfl (hb hby d9_460) rfl rfl (XS.ifnullYes X23L.here hx rfl (pc0 := 462) (pc' := 540) rfl (hb hby d9_462) rfl (by decide) (by decide) k))) ?_
          show oF (T23L.setTop (mkF m 540 #[oR r0, oI p1, .val (.long (own_tot (own_tot (0 : Int64) La) Lb)), oS, oI ps, oR ob, oI 2, oI 1, .val .null, j923, j1023] []))
          exact hk24 (sX) (mX) T23L _ h23L (.val .null) (j923) (j1023) (own_mono X23L (by decide) (by decide)) N23L e23L (One.val rfl) hj923 hj1023 Z23L E_r0_23L F_receivers_r0_23L F_outboxes_r0_23L F_recipients_r0_23L F_delivered_r0_23L F_senders_r0_23L F_messages_r0_23L F_first_r0_23L F_end_r0_23L O_ob_23L B_0_23L (by have q := B_1_23L; rw [hL25] at q; exact q) E_rv_23L F_words_rv_23L F_held_rv_23L F_blocks_rv_23L F_sorted_rv_23L E_il_23L F_indices_il_23L F_size_il_23L A_ix_23L A_wd_23L A_hd_23L A_fa_23L (by rw [hL25]; exact A_ea_23L) A_b17_23L A_b20_23L
        · refine own_vr hv25 ?_
          show oF (T23L.setTop (mkF m 458 #[oR r0, oI p1, .val (.long (own_tot (own_tot (0 : Int64) La) Lb)), oS, oI ps, oR ob, oI 2, oI 1, j823, j923, j1023] [(.ref xa25)]))
          obtain ⟨⟨ge_xa25, ge_xb25, ge_xc25, ge_xd25, ne_xb25_xc25⟩, E_xa25_o, F_size_xa25_o, F_senders_xa25_o, F_receivers_xa25_o, F_messages_xa25_o, A_xb25_o, A_xc25_o, A_xd25_o⟩ := hB25
          refine own_go (fun _ k => XS.astoreS X23L.here hx rfl (hb hby d9_458) rfl rfl rfl rfl hj823 (XS.aload X23L.here hx rfl (hb hby d9_460) rfl rfl (XS.ifnullNo X23L.here hx rfl (hb hby d9_462) rfl (XS.iconst X23L.here hx rfl (hb hby d9_465) (XS.istoreS X23L.here hx rfl (hb hby d9_466) rfl rfl hj923 k))))) ?_
          show oF (T23L.setTop (mkF m 468 #[oR r0, oI p1, .val (.long (own_tot (own_tot (0 : Int64) La) Lb)), oS, oI ps, oR ob, oI 2, oI 1, oR xa25, oI 0, j1023] []))
          have loopP1 : ∀ (kP1 : Nat) (i : Int32) (eL : Nat → Int32) (sL : Nat → Int32) (mL : Nat → Int64) (TP1L : State) (LP1L : List Loc) (hP1L : Heap) (j10P1 : Slot), kP1 = Lb.length - i.toNatClampNeg → own_I3 (own_cnt eF La) Lb i eL → Stand p l e rm9t_room s m #[(.ref r0), (.int p1)] below meth c TP1L LP1L 4 16 → Fr n0 LP1L → TP1L.heap = hP1L → One j10P1 → n0 ≤ hP1L.size → Exa Z hP1L r0 oC0 → Fld Z hP1L r0 oC0 "receivers" "I" (.int n) → Fld Z hP1L r0 oC0 "outboxes" oC4 (.ref ob) → Fld Z hP1L r0 oC0 "recipients" oC6 (.ref rv) → Fld Z hP1L r0 oC0 "delivered" "I" (.int ((own_tot (own_tot (0 : Int64) La) Lb).toInt32)) → Fld Z hP1L r0 oC0 "senders" "[I" (.ref b17) → Fld Z hP1L r0 oC0 "messages" "[J" (.ref b20) → Fld Z hP1L r0 oC0 "first" "[I" (.ref fa) → Fld Z hP1L r0 oC0 "end" "[I" (.ref ea) → own_Oa Z hP1L ob oC2 v0 v1 → own_Box Z hP1L n0 v0 Da [] → Exa Z hP1L rv oC1 → Fld Z hP1L rv oC1 "words" "[J" (.ref wd) → Fld Z hP1L rv oC1 "held" "[Z" (.ref hd) → Fld Z hP1L rv oC1 "blocks" oC5 (.ref il) → Fld Z hP1L rv oC1 "sorted" "Z" (.int 1) → Exa Z hP1L il oC3 → Fld Z hP1L il oC3 "indices" "[I" (.ref ix) → Fld Z hP1L il oC3 "size" "I" (.int 1) → own_Arf Z hP1L ix .int (16 : Int32) (fun i => .int ((own_gi (own_b (0 : Int32) La) (own_gi (0 : Int32) fi La) Lb) i)) → own_Arf Z hP1L wd .long (16 : Int32) (fun i => .long ((own_w0 (own_or (own_or (0 : Int64) La) Lb)) i)) → own_Arf Z hP1L hd .boolean (1 : Int32) (fun i => .int ((fun _ => (1 : Int32)) i)) → own_Arf Z hP1L fa .int n (fun i => .int (fF i)) → own_Arf Z hP1L ea .int n (fun i => .int (eL i)) → own_Arf Z hP1L b17 .int ((own_tot (own_tot (0 : Int64) La) Lb).toInt32) (fun i => .int (sL i)) → own_Arf Z hP1L b20 .long ((own_tot (own_tot (0 : Int64) La) Lb).toInt32) (fun i => .long (mL i)) → Exa Z hP1L xa25 oC2 → Fld Z hP1L xa25 oC2 "size" "I" (.int (Int32.ofNat Lb.length)) → Fld Z hP1L xa25 oC2 "senders" "[I" (.ref xb25) → Fld Z hP1L xa25 oC2 "receivers" "[I" (.ref xc25) → Fld Z hP1L xa25 oC2 "messages" "[J" (.ref xd25) → own_Arf Z hP1L xb25 .int (16 : Int32) (fun i => .int (q125 i)) → own_Arf Z hP1L xc25 .int (16 : Int32) (fun i => .int (gg25 i)) → own_Arf Z hP1L xd25 .long (16 : Int32) (fun i => .long (q325 i)) → own_Fin p.tables e below s (Qrm9t Z r0 p1 n ob rv fa ea v0 v1 Da Db La Lb wd hd il ix fi h0 n0) rm9t_room.cells rm9t_room.slots (TP1L.setTop (mkF m 468 #[oR r0, oI p1, .val (.long (own_tot (own_tot (0 : Int64) La) Lb)), oS, oI ps, oR ob, oI 2, oI 1, oR xa25, oI i, j10P1] [])) := by
           intro kP1
           induction kP1 using Nat.strongRecOn with
           | _ kP1 ihP1 =>
            intro i eL sL mL TP1L LP1L hP1L j10P1 hkP1 hI XP1L NP1L eP1L hj10P1 ZP1L E_r0_P1L F_receivers_r0_P1L F_outboxes_r0_P1L F_recipients_r0_P1L F_delivered_r0_P1L F_senders_r0_P1L F_messages_r0_P1L F_first_r0_P1L F_end_r0_P1L O_ob_P1L B_0_P1L E_rv_P1L F_words_rv_P1L F_held_rv_P1L F_blocks_rv_P1L F_sorted_rv_P1L E_il_P1L F_indices_il_P1L F_size_il_P1L A_ix_P1L A_wd_P1L A_hd_P1L A_fa_P1L A_ea_P1L A_b17_P1L A_b20_P1L E_xa25_P1L F_size_xa25_P1L F_senders_xa25_P1L F_receivers_xa25_P1L F_messages_xa25_P1L A_xb25_P1L A_xc25_P1L A_xd25_P1L
            show oF (TP1L.setTop (mkF m 468 #[oR r0, oI p1, .val (.long (own_tot (own_tot (0 : Int64) La) Lb)), oS, oI ps, oR ob, oI 2, oI 1, oR xa25, oI i, j10P1] []))
            refine own_go (fun _ k => XS.iload XP1L.here hx rfl (hb hby d9_468) rfl (XS.aload XP1L.here hx rfl (hb hby d9_470) rfl rfl k)) ?_
            refine own_go (fun tg k => own_getFR XP1L hx hZ hown (oW hw 113 rfl) eP1L F_size_xa25_P1L (g := (mkF m 472 #[oR r0, oI p1, .val (.long (own_tot (own_tot (0 : Int64) La) Lb)), oS, oI ps, oR ob, oI 2, oI 1, oR xa25, oI i, j10P1] [(.ref xa25), (.int i)])) rfl rfl (hb hby d9_472) tg k) ?_
            by_cases hc26 : i < (Int32.ofNat Lb.length)
            · refine own_go (fun _ k => XS.icmpNo XP1L.here hx rfl (hb hby d9_475) rfl (tlt hc26).2.1 (XS.aloadN XP1L.here hx rfl (hb hby d9_478) rfl rfl k)) ?_
              obtain ⟨T27, X27, e27, st27⟩ := getF XP1L hx hZ hown (host := "") (Or.inl (oW hw 123 rfl)) Via.refl eP1L F_end_r0_P1L (g := (mkF m 479 #[oR r0, oI p1, .val (.long (own_tot (own_tot (0 : Int64) La) Lb)), oS, oI ps, oR ob, oI 2, oI 1, oR xa25, oI i, j10P1] [(.ref r0)])) rfl rfl (hb hby d9_479)
              refine own_go (fun tg k => st27 tg k) ?_
              refine own_go (fun _ k => XS.aload X27.here hx rfl (hb hby d9_482) rfl rfl k) ?_
              refine own_go (fun tg k => own_getFR X27 hx hZ hown (oW hw 125 rfl) e27 F_receivers_xa25_P1L (g := (mkF m 484 #[oR r0, oI p1, .val (.long (own_tot (own_tot (0 : Int64) La) Lb)), oS, oI ps, oR ob, oI 2, oI 1, oR xa25, oI i, j10P1] [(.ref xa25), (.ref ea)])) rfl rfl (hb hby d9_484) tg k) ?_
              refine own_go (fun _ k => XS.iload X27.here hx rfl (hb hby d9_487) rfl k) ?_
              refine own_go (fun tg k => own_iaload X27 hx hZ e27 A_xc25_P1L (j := i) (own_ib3 hl25 hI hc26) (x := (gg25 i.toNatClampNeg)) rfl (g := (mkF m 489 #[oR r0, oI p1, .val (.long (own_tot (own_tot (0 : Int64) La) Lb)), oS, oI ps, oR ob, oI 2, oI 1, oR xa25, oI i, j10P1] [(.int i), (.ref xc25), (.ref ea)])) rfl rfl (hb hby d9_489) tg k) ?_
              refine own_go (fun _ k => Jvm.Free.XT.dup2 X27.here hx rfl (hb hby d9_490) rfl rfl rfl k) ?_
              refine own_go (fun tg k => own_iaload X27 hx hZ e27 A_ea_P1L (j := (gg25 i.toNatClampNeg)) (own_mem1 hm (own_gi_mem3 hl25 hg25 hI hc26)) (x := (eL (gg25 i.toNatClampNeg).toNatClampNeg)) rfl (g := (mkF m 491 #[oR r0, oI p1, .val (.long (own_tot (own_tot (0 : Int64) La) Lb)), oS, oI ps, oR ob, oI 2, oI 1, oR xa25, oI i, j10P1] [(.int (gg25 i.toNatClampNeg)), (.ref ea), (.int (gg25 i.toNatClampNeg)), (.ref ea)])) rfl rfl (hb hby d9_491) tg k) ?_
              refine own_go (fun _ k => own_dupX2 X27.here hx rfl (hb hby d9_492) rfl k) ?_
              refine own_go (fun _ k => XS.iconst X27.here hx rfl (hb hby d9_493) (XS.iadd X27.here hx rfl (hb hby d9_494) rfl k)) ?_
              obtain ⟨T28, h28, X28, e28, W28, A_ea_28, st28⟩ := own_stI X27 hx hZ e27 A_ea_P1L (j := (gg25 i.toNatClampNeg)) (own_mem1 hm (own_gi_mem3 hl25 hg25 hI hc26)) (g := (mkF m 495 #[oR r0, oI p1, .val (.long (own_tot (own_tot (0 : Int64) La) Lb)), oS, oI ps, oR ob, oI 2, oI 1, oR xa25, oI i, j10P1] [(.int ((eL (gg25 i.toNatClampNeg).toNatClampNeg) + (1 : Int32))), (.int (gg25 i.toNatClampNeg)), (.ref ea), (.int (eL (gg25 i.toNatClampNeg).toNatClampNeg))])) rfl rfl (hb hby d9_495)
              have E_r0_28 := E_r0_P1L.wr W28
              have u28_r0 := (own_ne_arf E_r0_P1L (oW hw 2 rfl) A_ea_P1L)
              have F_receivers_r0_28 := F_receivers_r0_P1L.other W28 (Or.inl u28_r0)
              have F_outboxes_r0_28 := F_outboxes_r0_P1L.other W28 (Or.inl u28_r0)
              have F_recipients_r0_28 := F_recipients_r0_P1L.other W28 (Or.inl u28_r0)
              have F_delivered_r0_28 := F_delivered_r0_P1L.other W28 (Or.inl u28_r0)
              have F_senders_r0_28 := F_senders_r0_P1L.other W28 (Or.inl u28_r0)
              have F_messages_r0_28 := F_messages_r0_P1L.other W28 (Or.inl u28_r0)
              have F_first_r0_28 := F_first_r0_P1L.other W28 (Or.inl u28_r0)
              have F_end_r0_28 := F_end_r0_P1L.other W28 (Or.inl u28_r0)
              have O_ob_28 := O_ob_P1L.other W28 (Ne.symm (own_ne_oarf A_ea_P1L O_ob_P1L (by decide)))
              have B_0_28 := B_0_P1L.other W28 nb_ea_0
              have E_rv_28 := E_rv_P1L.wr W28
              have u28_rv := (own_ne_arf E_rv_P1L (oW hw 27 rfl) A_ea_P1L)
              have F_words_rv_28 := F_words_rv_P1L.other W28 (Or.inl u28_rv)
              have F_held_rv_28 := F_held_rv_P1L.other W28 (Or.inl u28_rv)
              have F_blocks_rv_28 := F_blocks_rv_P1L.other W28 (Or.inl u28_rv)
              have F_sorted_rv_28 := F_sorted_rv_P1L.other W28 (Or.inl u28_rv)
              have E_il_28 := E_il_P1L.wr W28
              have u28_il := (own_ne_arf E_il_P1L (oW hw 38 rfl) A_ea_P1L)
              have F_indices_il_28 := F_indices_il_P1L.other W28 (Or.inl u28_il)
              have F_size_il_28 := F_size_il_P1L.other W28 (Or.inl u28_il)
              have A_ix_28 := A_ix_P1L.other W28 ne_ix_ea
              have A_wd_28 := A_wd_P1L.other W28 (own_ne_ty A_wd_P1L A_ea_P1L (by decide))
              have A_hd_28 := A_hd_P1L.other W28 (own_ne_ty A_hd_P1L A_ea_P1L (by decide))
              have A_fa_28 := A_fa_P1L.other W28 ne_fa_ea
              have A_b17_28 := A_b17_P1L.other W28 (Ne.symm ne_ea_b17)
              have A_b20_28 := A_b20_P1L.other W28 (Ne.symm ne_ea_b20)
              have E_xa25_28 := E_xa25_P1L.wr W28
              have u28_xa25 := (Ne.symm (own_nx nb_ea_1 (i := 0) (by rw [hD25]; rfl)))
              have F_size_xa25_28 := F_size_xa25_P1L.other W28 (Or.inl u28_xa25)
              have F_senders_xa25_28 := F_senders_xa25_P1L.other W28 (Or.inl u28_xa25)
              have F_receivers_xa25_28 := F_receivers_xa25_P1L.other W28 (Or.inl u28_xa25)
              have F_messages_xa25_28 := F_messages_xa25_P1L.other W28 (Or.inl u28_xa25)
              have A_xb25_28 := A_xb25_P1L.other W28 (Ne.symm (own_nx nb_ea_1 (i := 1) (by rw [hD25]; rfl)))
              have A_xc25_28 := A_xc25_P1L.other W28 (Ne.symm (own_nx nb_ea_1 (i := 2) (by rw [hD25]; rfl)))
              have A_xd25_28 := A_xd25_P1L.other W28 (Ne.symm (own_nx nb_ea_1 (i := 3) (by rw [hD25]; rfl)))
              have N28 := Fr.snoc X28 NP1L ge_ea
              have Z28 : n0 ≤ h28.size := Nat.le_trans ZP1L (Keep.of_wr W28).1
              refine own_go (fun tg k => st28 tg k) ?_
              refine own_go (fun _ k => XS.istoreS X28.here hx rfl (hb hby d9_496) rfl rfl hj10P1 (XS.aloadN X28.here hx rfl (hb hby d9_498) rfl rfl k)) ?_
              obtain ⟨T29, X29, e29, st29⟩ := getF X28 hx hZ hown (host := "") (Or.inl (oW hw 117 rfl)) Via.refl e28 F_senders_r0_28 (g := (mkF m 499 #[oR r0, oI p1, .val (.long (own_tot (own_tot (0 : Int64) La) Lb)), oS, oI ps, oR ob, oI 2, oI 1, oR xa25, oI i, .val (.int (eL (gg25 i.toNatClampNeg).toNatClampNeg))] [(.ref r0)])) rfl rfl (hb hby d9_499)
              refine own_go (fun tg k => st29 tg k) ?_
              refine own_go (fun _ k => XS.iload X29.here hx rfl (hb hby d9_502) rfl (XS.aload X29.here hx rfl (hb hby d9_504) rfl rfl k)) ?_
              refine own_go (fun tg k => own_getFR X29 hx hZ hown (oW hw 169 rfl) e29 F_senders_xa25_28 (g := (mkF m 506 #[oR r0, oI p1, .val (.long (own_tot (own_tot (0 : Int64) La) Lb)), oS, oI ps, oR ob, oI 2, oI 1, oR xa25, oI i, .val (.int (eL (gg25 i.toNatClampNeg).toNatClampNeg))] [(.ref xa25), (.int (eL (gg25 i.toNatClampNeg).toNatClampNeg)), (.ref b17)])) rfl rfl (hb hby d9_506) tg k) ?_
              refine own_go (fun _ k => XS.iload X29.here hx rfl (hb hby d9_509) rfl k) ?_
              refine own_go (fun tg k => own_iaload X29 hx hZ e29 A_xb25_28 (j := i) (own_ib3 hl25 hI hc26) (x := (q125 i.toNatClampNeg)) rfl (g := (mkF m 511 #[oR r0, oI p1, .val (.long (own_tot (own_tot (0 : Int64) La) Lb)), oS, oI ps, oR ob, oI 2, oI 1, oR xa25, oI i, .val (.int (eL (gg25 i.toNatClampNeg).toNatClampNeg))] [(.int i), (.ref xb25), (.int (eL (gg25 i.toNatClampNeg).toNatClampNeg)), (.ref b17)])) rfl rfl (hb hby d9_511) tg k) ?_
              obtain ⟨T30, h30, X30, e30, W30, A_b17_30, st30⟩ := own_stI X29 hx hZ e29 A_b17_28 (j := (eL (gg25 i.toNatClampNeg).toNatClampNeg)) (own_place1 hn hl hm hS hc13 hl25 hg25 hI hc26) (g := (mkF m 512 #[oR r0, oI p1, .val (.long (own_tot (own_tot (0 : Int64) La) Lb)), oS, oI ps, oR ob, oI 2, oI 1, oR xa25, oI i, .val (.int (eL (gg25 i.toNatClampNeg).toNatClampNeg))] [(.int (q125 i.toNatClampNeg)), (.int (eL (gg25 i.toNatClampNeg).toNatClampNeg)), (.ref b17)])) rfl rfl (hb hby d9_512)
              have E_r0_30 := E_r0_28.wr W30
              have F_receivers_r0_30 := F_receivers_r0_28.other W30 (Or.inl ne_r0_b17)
              have F_outboxes_r0_30 := F_outboxes_r0_28.other W30 (Or.inl ne_r0_b17)
              have F_recipients_r0_30 := F_recipients_r0_28.other W30 (Or.inl ne_r0_b17)
              have F_delivered_r0_30 := F_delivered_r0_28.other W30 (Or.inl ne_r0_b17)
              have F_senders_r0_30 := F_senders_r0_28.other W30 (Or.inl ne_r0_b17)
              have F_messages_r0_30 := F_messages_r0_28.other W30 (Or.inl ne_r0_b17)
              have F_first_r0_30 := F_first_r0_28.other W30 (Or.inl ne_r0_b17)
              have F_end_r0_30 := F_end_r0_28.other W30 (Or.inl ne_r0_b17)
              have O_ob_30 := O_ob_28.other W30 ne_ob_b17
              have B_0_30 := B_0_28.other W30 nb_b17_0
              have E_rv_30 := E_rv_28.wr W30
              have F_words_rv_30 := F_words_rv_28.other W30 (Or.inl ne_rv_b17)
              have F_held_rv_30 := F_held_rv_28.other W30 (Or.inl ne_rv_b17)
              have F_blocks_rv_30 := F_blocks_rv_28.other W30 (Or.inl ne_rv_b17)
              have F_sorted_rv_30 := F_sorted_rv_28.other W30 (Or.inl ne_rv_b17)
              have E_il_30 := E_il_28.wr W30
              have F_indices_il_30 := F_indices_il_28.other W30 (Or.inl ne_il_b17)
              have F_size_il_30 := F_size_il_28.other W30 (Or.inl ne_il_b17)
              have A_ix_30 := A_ix_28.other W30 ne_ix_b17
              have A_wd_30 := A_wd_28.other W30 ne_wd_b17
              have A_hd_30 := A_hd_28.other W30 ne_hd_b17
              have A_fa_30 := A_fa_28.other W30 ne_fa_b17
              have A_ea_30 := A_ea_28.other W30 ne_ea_b17
              have A_b20_30 := A_b20_28.other W30 (Ne.symm ne_b17_b20)
              have E_xa25_30 := E_xa25_28.wr W30
              have u30_xa25 := (Ne.symm (own_nx nb_b17_1 (i := 0) (by rw [hD25]; rfl)))
              have F_size_xa25_30 := F_size_xa25_28.other W30 (Or.inl u30_xa25)
              have F_senders_xa25_30 := F_senders_xa25_28.other W30 (Or.inl u30_xa25)
              have F_receivers_xa25_30 := F_receivers_xa25_28.other W30 (Or.inl u30_xa25)
              have F_messages_xa25_30 := F_messages_xa25_28.other W30 (Or.inl u30_xa25)
              have A_xb25_30 := A_xb25_28.other W30 (Ne.symm (own_nx nb_b17_1 (i := 1) (by rw [hD25]; rfl)))
              have A_xc25_30 := A_xc25_28.other W30 (Ne.symm (own_nx nb_b17_1 (i := 2) (by rw [hD25]; rfl)))
              have A_xd25_30 := A_xd25_28.other W30 (Ne.symm (own_nx nb_b17_1 (i := 3) (by rw [hD25]; rfl)))
              have N30 := Fr.snoc X30 N28 ge_b17
              have Z30 : n0 ≤ h30.size := Nat.le_trans Z28 (Keep.of_wr W30).1
              refine own_go (fun tg k => st30 tg k) ?_
              refine own_go (fun _ k => XS.aloadN X30.here hx rfl (hb hby d9_513) rfl rfl k) ?_
              obtain ⟨T31, X31, e31, st31⟩ := getF X30 hx hZ hown (host := "") (Or.inl (oW hw 119 rfl)) Via.refl e30 F_messages_r0_30 (g := (mkF m 514 #[oR r0, oI p1, .val (.long (own_tot (own_tot (0 : Int64) La) Lb)), oS, oI ps, oR ob, oI 2, oI 1, oR xa25, oI i, .val (.int (eL (gg25 i.toNatClampNeg).toNatClampNeg))] [(.ref r0)])) rfl rfl (hb hby d9_514)
              refine own_go (fun tg k => st31 tg k) ?_
              refine own_go (fun _ k => XS.iload X31.here hx rfl (hb hby d9_517) rfl (XS.aload X31.here hx rfl (hb hby d9_519) rfl rfl k)) ?_
              refine own_go (fun tg k => own_getFR X31 hx hZ hown (oW hw 170 rfl) e31 F_messages_xa25_30 (g := (mkF m 521 #[oR r0, oI p1, .val (.long (own_tot (own_tot (0 : Int64) La) Lb)), oS, oI ps, oR ob, oI 2, oI 1, oR xa25, oI i, .val (.int (eL (gg25 i.toNatClampNeg).toNatClampNeg))] [(.ref xa25), (.int (eL (gg25 i.toNatClampNeg).toNatClampNeg)), (.ref b20)])) rfl rfl (hb hby d9_521) tg k) ?_
              refine own_go (fun _ k => XS.iload X31.here hx rfl (hb hby d9_524) rfl k) ?_
              refine own_go (fun tg k => own_laload X31 hx hZ e31 A_xd25_30 (j := i) (own_ib3 hl25 hI hc26) (x := (q325 i.toNatClampNeg)) rfl (g := (mkF m 526 #[oR r0, oI p1, .val (.long (own_tot (own_tot (0 : Int64) La) Lb)), oS, oI ps, oR ob, oI 2, oI 1, oR xa25, oI i, .val (.int (eL (gg25 i.toNatClampNeg).toNatClampNeg))] [(.int i), (.ref xd25), (.int (eL (gg25 i.toNatClampNeg).toNatClampNeg)), (.ref b20)])) rfl rfl (hb hby d9_526) tg k) ?_
              obtain ⟨T32, h32, X32, e32, W32, A_b20_32, st32⟩ := own_stJ X31 hx hZ e31 A_b20_30 (j := (eL (gg25 i.toNatClampNeg).toNatClampNeg)) (own_place1 hn hl hm hS hc13 hl25 hg25 hI hc26) (g := (mkF m 527 #[oR r0, oI p1, .val (.long (own_tot (own_tot (0 : Int64) La) Lb)), oS, oI ps, oR ob, oI 2, oI 1, oR xa25, oI i, .val (.int (eL (gg25 i.toNatClampNeg).toNatClampNeg))] [(.long (q325 i.toNatClampNeg)), (.int (eL (gg25 i.toNatClampNeg).toNatClampNeg)), (.ref b20)])) rfl rfl (hb hby d9_527)
              have E_r0_32 := E_r0_30.wr W32
              have F_receivers_r0_32 := F_receivers_r0_30.other W32 (Or.inl ne_r0_b20)
              have F_outboxes_r0_32 := F_outboxes_r0_30.other W32 (Or.inl ne_r0_b20)
              have F_recipients_r0_32 := F_recipients_r0_30.other W32 (Or.inl ne_r0_b20)
              have F_delivered_r0_32 := F_delivered_r0_30.other W32 (Or.inl ne_r0_b20)
              have F_senders_r0_32 := F_senders_r0_30.other W32 (Or.inl ne_r0_b20)
              have F_messages_r0_32 := F_messages_r0_30.other W32 (Or.inl ne_r0_b20)
              have F_first_r0_32 := F_first_r0_30.other W32 (Or.inl ne_r0_b20)
              have F_end_r0_32 := F_end_r0_30.other W32 (Or.inl ne_r0_b20)
              have O_ob_32 := O_ob_30.other W32 ne_ob_b20
              have B_0_32 := B_0_30.other W32 nb_b20_0
              have E_rv_32 := E_rv_30.wr W32
              have F_words_rv_32 := F_words_rv_30.other W32 (Or.inl ne_rv_b20)
              have F_held_rv_32 := F_held_rv_30.other W32 (Or.inl ne_rv_b20)
              have F_blocks_rv_32 := F_blocks_rv_30.other W32 (Or.inl ne_rv_b20)
              have F_sorted_rv_32 := F_sorted_rv_30.other W32 (Or.inl ne_rv_b20)
              have E_il_32 := E_il_30.wr W32
              have F_indices_il_32 := F_indices_il_30.other W32 (Or.inl ne_il_b20)
              have F_size_il_32 := F_size_il_30.other W32 (Or.inl ne_il_b20)
              have A_ix_32 := A_ix_30.other W32 ne_ix_b20
              have A_wd_32 := A_wd_30.other W32 ne_wd_b20
              have A_hd_32 := A_hd_30.other W32 ne_hd_b20
              have A_fa_32 := A_fa_30.other W32 ne_fa_b20
              have A_ea_32 := A_ea_30.other W32 ne_ea_b20
              have A_b17_32 := A_b17_30.other W32 ne_b17_b20
              have E_xa25_32 := E_xa25_30.wr W32
              have u32_xa25 := (Ne.symm (own_nx nb_b20_1 (i := 0) (by rw [hD25]; rfl)))
              have F_size_xa25_32 := F_size_xa25_30.other W32 (Or.inl u32_xa25)
              have F_senders_xa25_32 := F_senders_xa25_30.other W32 (Or.inl u32_xa25)
              have F_receivers_xa25_32 := F_receivers_xa25_30.other W32 (Or.inl u32_xa25)
              have F_messages_xa25_32 := F_messages_xa25_30.other W32 (Or.inl u32_xa25)
              have A_xb25_32 := A_xb25_30.other W32 (Ne.symm (own_nx nb_b20_1 (i := 1) (by rw [hD25]; rfl)))
              have A_xc25_32 := A_xc25_30.other W32 (Ne.symm (own_nx nb_b20_1 (i := 2) (by rw [hD25]; rfl)))
              have A_xd25_32 := A_xd25_30.other W32 (Ne.symm (own_nx nb_b20_1 (i := 3) (by rw [hD25]; rfl)))
              have N32 := Fr.snoc X32 N30 ge_b20
              have Z32 : n0 ≤ h32.size := Nat.le_trans Z30 (Keep.of_wr W32).1
              refine own_go (fun tg k => st32 tg k) ?_
              refine own_go (fun _ k => XS.iinc X32.here hx rfl (hb hby d9_528) rfl (l' := #[oR r0, oI p1, .val (.long (own_tot (own_tot (0 : Int64) La) Lb)), oS, oI ps, oR ob, oI 2, oI 1, oR xa25, .val (.int (i + (1 : Int32))), .val (.int (eL (gg25 i.toNatClampNeg).toNatClampNeg))]) rfl (XS.goto X32.here hx rfl (pc0 := 531) (pc' := 468) rfl (hb hby d9_531) (by decide) (by decide) k)) ?_
              show oF (T32.setTop (mkF m 468 #[oR r0, oI p1, .val (.long (own_tot (own_tot (0 : Int64) La) Lb)), oS, oI ps, oR ob, oI 2, oI 1, oR xa25, .val (.int (i + (1 : Int32))), .val (.int (eL (gg25 i.toNatClampNeg).toNatClampNeg))] []))
              exact ihP1 _ (own_I2m3 hl25 hI hc26 hkP1) ((i + (1 : Int32))) ((own_set eL (gg25 i.toNatClampNeg) ((eL (gg25 i.toNatClampNeg).toNatClampNeg) + (1 : Int32)))) ((own_set sL (eL (gg25 i.toNatClampNeg).toNatClampNeg) (q125 i.toNatClampNeg))) ((own_set mL (eL (gg25 i.toNatClampNeg).toNatClampNeg) (q325 i.toNatClampNeg))) T32 _ h32 (.val (.int (eL (gg25 i.toNatClampNeg).toNatClampNeg))) rfl (own_I3s hl25 hg25 hI hc26) (own_mono X32 (by decide) (by decide)) N32 e32 (One.val rfl) Z32 E_r0_32 F_receivers_r0_32 F_outboxes_r0_32 F_recipients_r0_32 F_delivered_r0_32 F_senders_r0_32 F_messages_r0_32 F_first_r0_32 F_end_r0_32 O_ob_32 B_0_32 E_rv_32 F_words_rv_32 F_held_rv_32 F_blocks_rv_32 F_sorted_rv_32 E_il_32 F_indices_il_32 F_size_il_32 A_ix_32 A_wd_32 A_hd_32 A_fa_32 A_ea_32 A_b17_32 A_b20_32 E_xa25_32 F_size_xa25_32 F_senders_xa25_32 F_receivers_xa25_32 F_messages_xa25_32 A_xb25_32 A_xc25_32 A_xd25_32
            · refine own_go (fun _ k => XS.icmpYes XP1L.here hx rfl (pc0 := 475) (pc' := 534) rfl (hb hby d9_475) rfl (flt hc26).2.1 (by decide) (by decide) k) ?_
              show oF (TP1L.setTop (mkF m 534 #[oR r0, oI p1, .val (.long (own_tot (own_tot (0 : Int64) La) Lb)), oS, oI ps, oR ob, oI 2, oI 1, oR xa25, oI i, j10P1] []))
              refine own_go (fun _ k => XS.aload XP1L.here hx rfl (hb hby d9_534) rfl rfl (XS.iconst XP1L.here hx rfl (hb hby d9_536) k)) ?_
              obtain ⟨T33, h33, X33, e33, W33, st33⟩ := own_putFR XP1L hx hZ hown (oW hw 113 rfl) eP1L F_size_xa25_P1L E_xa25_P1L (oW hw 85 rfl) (oW hw 64 rfl) (ty := .int) (by decide) rfl rfl (g := (mkF m 537 #[oR r0, oI p1, .val (.long (own_tot (own_tot (0 : Int64) La) Lb)), oS, oI ps, oR ob, oI 2, oI 1, oR xa25, oI i, j10P1] [(.int 0), (.ref xa25)])) rfl rfl (hb hby d9_537)
              have E_r0_33 := E_r0_P1L.wr W33
              have u33_r0 := (own_nx nb_r0_1 (i := 0) (by rw [hD25]; rfl))
              have F_receivers_r0_33 := F_receivers_r0_P1L.other W33 (Or.inl u33_r0)
              have F_outboxes_r0_33 := F_outboxes_r0_P1L.other W33 (Or.inl u33_r0)
              have F_recipients_r0_33 := F_recipients_r0_P1L.other W33 (Or.inl u33_r0)
              have F_delivered_r0_33 := F_delivered_r0_P1L.other W33 (Or.inl u33_r0)
              have F_senders_r0_33 := F_senders_r0_P1L.other W33 (Or.inl u33_r0)
              have F_messages_r0_33 := F_messages_r0_P1L.other W33 (Or.inl u33_r0)
              have F_first_r0_33 := F_first_r0_P1L.other W33 (Or.inl u33_r0)
              have F_end_r0_33 := F_end_r0_P1L.other W33 (Or.inl u33_r0)
              have O_ob_33 := O_ob_P1L.other W33 (Ne.symm (own_ne_oa E_xa25_P1L (oW hw 64 rfl) O_ob_P1L))
              have B_0_33 := B_0_P1L.other W33 (hdk xa25 (by rw [hD25]; simp))
              have E_rv_33 := E_rv_P1L.wr W33
              have u33_rv := (own_nx nb_rv_1 (i := 0) (by rw [hD25]; rfl))
              have F_words_rv_33 := F_words_rv_P1L.other W33 (Or.inl u33_rv)
              have F_held_rv_33 := F_held_rv_P1L.other W33 (Or.inl u33_rv)
              have F_blocks_rv_33 := F_blocks_rv_P1L.other W33 (Or.inl u33_rv)
              have F_sorted_rv_33 := F_sorted_rv_P1L.other W33 (Or.inl u33_rv)
              have E_il_33 := E_il_P1L.wr W33
              have u33_il := (own_nx nb_il_1 (i := 0) (by rw [hD25]; rfl))
              have F_indices_il_33 := F_indices_il_P1L.other W33 (Or.inl u33_il)
              have F_size_il_33 := F_size_il_P1L.other W33 (Or.inl u33_il)
              have A_ix_33 := A_ix_P1L.other W33 (own_nx nb_ix_1 (i := 0) (by rw [hD25]; rfl))
              have A_wd_33 := A_wd_P1L.other W33 (own_nx nb_wd_1 (i := 0) (by rw [hD25]; rfl))
              have A_hd_33 := A_hd_P1L.other W33 (own_nx nb_hd_1 (i := 0) (by rw [hD25]; rfl))
              have A_fa_33 := A_fa_P1L.other W33 (own_nx nb_fa_1 (i := 0) (by rw [hD25]; rfl))
              have A_ea_33 := A_ea_P1L.other W33 (own_nx nb_ea_1 (i := 0) (by rw [hD25]; rfl))
              have A_b17_33 := A_b17_P1L.other W33 (own_nx nb_b17_1 (i := 0) (by rw [hD25]; rfl))
              have A_b20_33 := A_b20_P1L.other W33 (own_nx nb_b20_1 (i := 0) (by rw [hD25]; rfl))
              have E_xa25_33 := E_xa25_P1L.wr W33
              have F_senders_xa25_33 := F_senders_xa25_P1L.other W33 (Or.inr (own_sn441 hw))
              have F_receivers_xa25_33 := F_receivers_xa25_P1L.other W33 (Or.inr (own_sn442 hw))
              have F_messages_xa25_33 := F_messages_xa25_P1L.other W33 (Or.inr (own_sn443 hw))
              have A_xb25_33 := A_xb25_P1L.other W33 (Ne.symm (own_ne_arf E_xa25_P1L (oW hw 64 rfl) A_xb25_P1L))
              have A_xc25_33 := A_xc25_P1L.other W33 (Ne.symm (own_ne_arf E_xa25_P1L (oW hw 64 rfl) A_xc25_P1L))
              have A_xd25_33 := A_xd25_P1L.other W33 (Ne.symm (own_ne_arf E_xa25_P1L (oW hw 64 rfl) A_xd25_P1L))
              have N33 := Fr.snoc X33 NP1L ge_xa25
              have Z33 : n0 ≤ h33.size := Nat.le_trans ZP1L (Keep.of_wr W33).1
              have F_size_xa25_33 := F_size_xa25_P1L.same W33
              refine own_go (fun tg k => st33 tg k) ?_
              show oF (T33.setTop (mkF m 540 #[oR r0, oI p1, .val (.long (own_tot (own_tot (0 : Int64) La) Lb)), oS, oI ps, oR ob, oI 2, oI 1, oR xa25, oI i, j10P1] []))
              exact hk24 (sL) (mL) T33 _ h33 (oR xa25) (oI i) (j10P1) (own_mono X33 (by decide) (by decide)) N33 e33 (One.val rfl) (One.val rfl) hj10P1 Z33 E_r0_33 F_receivers_r0_33 F_outboxes_r0_33 F_recipients_r0_33 F_delivered_r0_33 F_senders_r0_33 F_messages_r0_33 F_first_r0_33 F_end_r0_33 O_ob_33 B_0_33 (by rw [hv25, hD25]; exact own_Box.mk (by decide) rfl (fun i hi => absurd hi (Nat.not_lt_zero _)) ge_xa25 ge_xb25 ge_xc25 ge_xd25 ne_xb25_xc25 E_xa25_33 F_size_xa25_33 F_senders_xa25_33 F_receivers_xa25_33 F_messages_xa25_33 A_xb25_33 A_xc25_33 A_xd25_33) E_rv_33 F_words_rv_33 F_held_rv_33 F_blocks_rv_33 F_sorted_rv_33 E_il_33 F_indices_il_33 F_size_il_33 A_ix_33 A_wd_33 A_hd_33 A_fa_33 (by rw [← own_I3x hl25 hI hc26]; exact A_ea_33) A_b17_33 A_b20_33
          exact loopP1 _ ((0 : Int32)) ((own_cnt eF La)) (sX) (mX) T23L _ h23L (j1023) rfl (own_I30 _ _) (own_mono X23L (by decide) (by decide)) N23L e23L hj1023 Z23L E_r0_23L F_receivers_r0_23L F_outboxes_r0_23L F_recipients_r0_23L F_delivered_r0_23L F_senders_r0_23L F_messages_r0_23L F_first_r0_23L F_end_r0_23L O_ob_23L B_0_23L E_rv_23L F_words_rv_23L F_held_rv_23L F_blocks_rv_23L F_sorted_rv_23L E_il_23L F_indices_il_23L F_size_il_23L A_ix_23L A_wd_23L A_hd_23L A_fa_23L A_ea_23L A_b17_23L A_b20_23L E_xa25_o F_size_xa25_o F_senders_xa25_o F_receivers_xa25_o F_messages_xa25_o A_xb25_o A_xc25_o A_xd25_o
       obtain ⟨hl34, ⟨hv34, hD34, hL34⟩ | ⟨xa34, xb34, xc34, xd34, q134, gg34, q334, hv34, hD34, hB34, hg34⟩⟩ := id B_0_21
       · refine own_vr hv34 ?_
         show oF (T22.setTop (mkF m 458 #[oR r0, oI p1, .val (.long (own_tot (own_tot (0 : Int64) La) Lb)), oS, oI ps, oR ob, oI 2, oI 0, j83, j93, oU] [.null]))
         refine own_go (fun _ k => XS.astoreS X22.here hx rfl (hb hby d9_458) rfl rfl rfl rfl hj83 (XS.aload X22.here hx rfl (hb hby d9_460) rfl rfl (XS.ifnullYes X22.here hx rfl (pc0 := 462) (pc' := 540) rfl (hb hby d9_462) rfl (by decide) (by decide) k))) ?_
         show oF (T22.setTop (mkF m 540 #[oR r0, oI p1, .val (.long (own_tot (own_tot (0 : Int64) La) Lb)), oS, oI ps, oR ob, oI 2, oI 0, .val .null, j93, oU] []))
         exact hk23 ((fun _ => (0 : Int32))) ((fun _ => (0 : Int64))) T22 _ h21 (.val .null) (j93) (.unset) (own_mono X22 (by decide) (by decide)) N21 e22 (One.val rfl) hj93 One.u Z21 E_r0_21 F_receivers_r0_21 F_outboxes_r0_21 F_recipients_r0_21 F_delivered_r0_21 F_senders_r0_21 F_messages_r0_21 F_first_r0_21 F_end_r0_21 O_ob_21 (by have q := B_0_21; rw [hL34] at q; exact q) B_1_21 E_rv_21 F_words_rv_21 F_held_rv_21 F_blocks_rv_21 F_sorted_rv_21 E_il_21 F_indices_il_21 F_size_il_21 A_ix_21 A_wd_21 A_hd_21 A_fa_21 (by rw [hL34]; exact A_ea_21) A_b17_21 A_b20_21
       · refine own_vr hv34 ?_
         show oF (T22.setTop (mkF m 458 #[oR r0, oI p1, .val (.long (own_tot (own_tot (0 : Int64) La) Lb)), oS, oI ps, oR ob, oI 2, oI 0, j83, j93, oU] [(.ref xa34)]))
         obtain ⟨⟨ge_xa34, ge_xb34, ge_xc34, ge_xd34, ne_xb34_xc34⟩, E_xa34_o, F_size_xa34_o, F_senders_xa34_o, F_receivers_xa34_o, F_messages_xa34_o, A_xb34_o, A_xc34_o, A_xd34_o⟩ := hB34
         refine own_go (fun _ k => XS.astoreS X22.here hx rfl (hb hby d9_458) rfl rfl rfl rfl hj83 (XS.aload X22.here hx rfl (hb hby d9_460) rfl rfl (XS.ifnullNo X22.here hx rfl (hb hby d9_462) rfl (XS.iconst X22.here hx rfl (hb hby d9_465) (XS.istoreS X22.here hx rfl (hb hby d9_466) rfl rfl hj93 k))))) ?_
         show oF (T22.setTop (mkF m 468 #[oR r0, oI p1, .val (.long (own_tot (own_tot (0 : Int64) La) Lb)), oS, oI ps, oR ob, oI 2, oI 0, oR xa34, oI 0, oU] []))
         have loopP0 : ∀ (kP0 : Nat) (i : Int32) (eL : Nat → Int32) (sL : Nat → Int32) (mL : Nat → Int64) (TP0L : State) (LP0L : List Loc) (hP0L : Heap) (j10P0 : Slot), kP0 = La.length - i.toNatClampNeg → own_I3 eF La i eL → Stand p l e rm9t_room s m #[(.ref r0), (.int p1)] below meth c TP0L LP0L 4 16 → Fr n0 LP0L → TP0L.heap = hP0L → One j10P0 → n0 ≤ hP0L.size → Exa Z hP0L r0 oC0 → Fld Z hP0L r0 oC0 "receivers" "I" (.int n) → Fld Z hP0L r0 oC0 "outboxes" oC4 (.ref ob) → Fld Z hP0L r0 oC0 "recipients" oC6 (.ref rv) → Fld Z hP0L r0 oC0 "delivered" "I" (.int ((own_tot (own_tot (0 : Int64) La) Lb).toInt32)) → Fld Z hP0L r0 oC0 "senders" "[I" (.ref b17) → Fld Z hP0L r0 oC0 "messages" "[J" (.ref b20) → Fld Z hP0L r0 oC0 "first" "[I" (.ref fa) → Fld Z hP0L r0 oC0 "end" "[I" (.ref ea) → own_Oa Z hP0L ob oC2 v0 v1 → own_Box Z hP0L n0 v1 Db Lb → Exa Z hP0L rv oC1 → Fld Z hP0L rv oC1 "words" "[J" (.ref wd) → Fld Z hP0L rv oC1 "held" "[Z" (.ref hd) → Fld Z hP0L rv oC1 "blocks" oC5 (.ref il) → Fld Z hP0L rv oC1 "sorted" "Z" (.int 1) → Exa Z hP0L il oC3 → Fld Z hP0L il oC3 "indices" "[I" (.ref ix) → Fld Z hP0L il oC3 "size" "I" (.int 1) → own_Arf Z hP0L ix .int (16 : Int32) (fun i => .int ((own_gi (own_b (0 : Int32) La) (own_gi (0 : Int32) fi La) Lb) i)) → own_Arf Z hP0L wd .long (16 : Int32) (fun i => .long ((own_w0 (own_or (own_or (0 : Int64) La) Lb)) i)) → own_Arf Z hP0L hd .boolean (1 : Int32) (fun i => .int ((fun _ => (1 : Int32)) i)) → own_Arf Z hP0L fa .int n (fun i => .int (fF i)) → own_Arf Z hP0L ea .int n (fun i => .int (eL i)) → own_Arf Z hP0L b17 .int ((own_tot (own_tot (0 : Int64) La) Lb).toInt32) (fun i => .int (sL i)) → own_Arf Z hP0L b20 .long ((own_tot (own_tot (0 : Int64) La) Lb).toInt32) (fun i => .long (mL i)) → Exa Z hP0L xa34 oC2 → Fld Z hP0L xa34 oC2 "size" "I" (.int (Int32.ofNat La.length)) → Fld Z hP0L xa34 oC2 "senders" "[I" (.ref xb34) → Fld Z hP0L xa34 oC2 "receivers" "[I" (.ref xc34) → Fld Z hP0L xa34 oC2 "messages" "[J" (.ref xd34) → own_Arf Z hP0L xb34 .int (16 : Int32) (fun i => .int (q134 i)) → own_Arf Z hP0L xc34 .int (16 : Int32) (fun i => .int (gg34 i)) → own_Arf Z hP0L xd34 .long (16 : Int32) (fun i => .long (q334 i)) → own_Fin p.tables e below s (Qrm9t Z r0 p1 n ob rv fa ea v0 v1 Da Db La Lb wd hd il ix fi h0 n0) rm9t_room.cells rm9t_room.slots (TP0L.setTop (mkF m 468 #[oR r0, oI p1, .val (.long (own_tot (own_tot (0 : Int64) La) Lb)), oS, oI ps, oR ob, oI 2, oI 0, oR xa34, oI i, j10P0] [])) := by
          intro kP0
          induction kP0 using Nat.strongRecOn with
          | _ kP0 ihP0 =>
           intro i eL sL mL TP0L LP0L hP0L j10P0 hkP0 hI XP0L NP0L eP0L hj10P0 ZP0L E_r0_P0L F_receivers_r0_P0L F_outboxes_r0_P0L F_recipients_r0_P0L F_delivered_r0_P0L F_senders_r0_P0L F_messages_r0_P0L F_first_r0_P0L F_end_r0_P0L O_ob_P0L B_1_P0L E_rv_P0L F_words_rv_P0L F_held_rv_P0L F_blocks_rv_P0L F_sorted_rv_P0L E_il_P0L F_indices_il_P0L F_size_il_P0L A_ix_P0L A_wd_P0L A_hd_P0L A_fa_P0L A_ea_P0L A_b17_P0L A_b20_P0L E_xa34_P0L F_size_xa34_P0L F_senders_xa34_P0L F_receivers_xa34_P0L F_messages_xa34_P0L A_xb34_P0L A_xc34_P0L A_xd34_P0L
           show oF (TP0L.setTop (mkF m 468 #[oR r0, oI p1, .val (.long (own_tot (own_tot (0 : Int64) La) Lb)), oS, oI ps, oR ob, oI 2, oI 0, oR xa34, oI i, j10P0] []))
           refine own_go (fun _ k => XS.iload XP0L.here hx rfl (hb hby d9_468) rfl (XS.aload XP0L.here hx rfl (hb hby d9_470) rfl rfl k)) ?_
           refine own_go (fun tg k => own_getFR XP0L hx hZ hown (oW hw 113 rfl) eP0L F_size_xa34_P0L (g := (mkF m 472 #[oR r0, oI p1, .val (.long (own_tot (own_tot (0 : Int64) La) Lb)), oS, oI ps, oR ob, oI 2, oI 0, oR xa34, oI i, j10P0] [(.ref xa34), (.int i)])) rfl rfl (hb hby d9_472) tg k) ?_
           by_cases hc35 : i < (Int32.ofNat La.length)
           · refine own_go (fun _ k => XS.icmpNo XP0L.here hx rfl (hb hby d9_475) rfl (tlt hc35).2.1 (XS.aloadN XP0L.here hx rfl (hb hby d9_478) rfl rfl k)) ?_
             obtain ⟨T36, X36, e36, st36⟩ := getF XP0L hx hZ hown (host := "") (Or.inl (oW hw 123 rfl)) Via.refl eP0L F_end_r0_P0L (g := (mkF m 479 #[oR r0, oI p1, .val (.long (own_tot (own_tot (0 : Int64) La) Lb)), oS, oI ps, oR ob, oI 2, oI 0, oR xa34, oI i, j10P0] [(.ref r0)])) rfl rfl (hb hby d9_479)
             refine own_go (fun tg k => st36 tg k) ?_
             refine own_go (fun _ k => XS.aload X36.here hx rfl (hb hby d9_482) rfl rfl k) ?_
             refine own_go (fun tg k => own_getFR X36 hx hZ hown (oW hw 125 rfl) e36 F_receivers_xa34_P0L (g := (mkF m 484 #[oR r0, oI p1, .val (.long (own_tot (own_tot (0 : Int64) La) Lb)), oS, oI ps, oR ob, oI 2, oI 0, oR xa34, oI i, j10P0] [(.ref xa34), (.ref ea)])) rfl rfl (hb hby d9_484) tg k) ?_
             refine own_go (fun _ k => XS.iload X36.here hx rfl (hb hby d9_487) rfl k) ?_
             refine own_go (fun tg k => own_iaload X36 hx hZ e36 A_xc34_P0L (j := i) (own_ib3 hl34 hI hc35) (x := (gg34 i.toNatClampNeg)) rfl (g := (mkF m 489 #[oR r0, oI p1, .val (.long (own_tot (own_tot (0 : Int64) La) Lb)), oS, oI ps, oR ob, oI 2, oI 0, oR xa34, oI i, j10P0] [(.int i), (.ref xc34), (.ref ea)])) rfl rfl (hb hby d9_489) tg k) ?_
             refine own_go (fun _ k => Jvm.Free.XT.dup2 X36.here hx rfl (hb hby d9_490) rfl rfl rfl k) ?_
             refine own_go (fun tg k => own_iaload X36 hx hZ e36 A_ea_P0L (j := (gg34 i.toNatClampNeg)) (own_mem0 hm (own_gi_mem3 hl34 hg34 hI hc35)) (x := (eL (gg34 i.toNatClampNeg).toNatClampNeg)) rfl (g := (mkF m 491 #[oR r0, oI p1, .val (.long (own_tot (own_tot (0 : Int64) La) Lb)), oS, oI ps, oR ob, oI 2, oI 0, oR xa34, oI i, j10P0] [(.int (gg34 i.toNatClampNeg)), (.ref ea), (.int (gg34 i.toNatClampNeg)), (.ref ea)])) rfl rfl (hb hby d9_491) tg k) ?_
             refine own_go (fun _ k => own_dupX2 X36.here hx rfl (hb hby d9_492) rfl k) ?_
             refine own_go (fun _ k => XS.iconst X36.here hx rfl (hb hby d9_493) (XS.iadd X36.here hx rfl (hb hby d9_494) rfl k)) ?_
             obtain ⟨T37, h37, X37, e37, W37, A_ea_37, st37⟩ := own_stI X36 hx hZ e36 A_ea_P0L (j := (gg34 i.toNatClampNeg)) (own_mem0 hm (own_gi_mem3 hl34 hg34 hI hc35)) (g := (mkF m 495 #[oR r0, oI p1, .val (.long (own_tot (own_tot (0 : Int64) La) Lb)), oS, oI ps, oR ob, oI 2, oI 0, oR xa34, oI i, j10P0] [(.int ((eL (gg34 i.toNatClampNeg).toNatClampNeg) + (1 : Int32))), (.int (gg34 i.toNatClampNeg)), (.ref ea), (.int (eL (gg34 i.toNatClampNeg).toNatClampNeg))])) rfl rfl (hb hby d9_495)
             have E_r0_37 := E_r0_P0L.wr W37
             have u37_r0 := (own_ne_arf E_r0_P0L (oW hw 2 rfl) A_ea_P0L)
             have F_receivers_r0_37 := F_receivers_r0_P0L.other W37 (Or.inl u37_r0)
             have F_outboxes_r0_37 := F_outboxes_r0_P0L.other W37 (Or.inl u37_r0)
             have F_recipients_r0_37 := F_recipients_r0_P0L.other W37 (Or.inl u37_r0)
             have F_delivered_r0_37 := F_delivered_r0_P0L.other W37 (Or.inl u37_r0)
             have F_senders_r0_37 := F_senders_r0_P0L.other W37 (Or.inl u37_r0)
             have F_messages_r0_37 := F_messages_r0_P0L.other W37 (Or.inl u37_r0)
             have F_first_r0_37 := F_first_r0_P0L.other W37 (Or.inl u37_r0)
             have F_end_r0_37 := F_end_r0_P0L.other W37 (Or.inl u37_r0)
             have O_ob_37 := O_ob_P0L.other W37 (Ne.symm (own_ne_oarf A_ea_P0L O_ob_P0L (by decide)))
             have B_1_37 := B_1_P0L.other W37 nb_ea_1
             have E_rv_37 := E_rv_P0L.wr W37
             have u37_rv := (own_ne_arf E_rv_P0L (oW hw 27 rfl) A_ea_P0L)
             have F_words_rv_37 := F_words_rv_P0L.other W37 (Or.inl u37_rv)
             have F_held_rv_37 := F_held_rv_P0L.other W37 (Or.inl u37_rv)
             have F_blocks_rv_37 := F_blocks_rv_P0L.other W37 (Or.inl u37_rv)
             have F_sorted_rv_37 := F_sorted_rv_P0L.other W37 (Or.inl u37_rv)
             have E_il_37 := E_il_P0L.wr W37
             have u37_il := (own_ne_arf E_il_P0L (oW hw 38 rfl) A_ea_P0L)
             have F_indices_il_37 := F_indices_il_P0L.other W37 (Or.inl u37_il)
             have F_size_il_37 := F_size_il_P0L.other W37 (Or.inl u37_il)
             have A_ix_37 := A_ix_P0L.other W37 ne_ix_ea
             have A_wd_37 := A_wd_P0L.other W37 (own_ne_ty A_wd_P0L A_ea_P0L (by decide))
             have A_hd_37 := A_hd_P0L.other W37 (own_ne_ty A_hd_P0L A_ea_P0L (by decide))
             have A_fa_37 := A_fa_P0L.other W37 ne_fa_ea
             have A_b17_37 := A_b17_P0L.other W37 (Ne.symm ne_ea_b17)
             have A_b20_37 := A_b20_P0L.other W37 (Ne.symm ne_ea_b20)
             have E_xa34_37 := E_xa34_P0L.wr W37
             have u37_xa34 := (Ne.symm (own_nx nb_ea_0 (i := 0) (by rw [hD34]; rfl)))
             have F_size_xa34_37 := F_size_xa34_P0L.other W37 (Or.inl u37_xa34)
             have F_senders_xa34_37 := F_senders_xa34_P0L.other W37 (Or.inl u37_xa34)
             have F_receivers_xa34_37 := F_receivers_xa34_P0L.other W37 (Or.inl u37_xa34)
             have F_messages_xa34_37 := F_messages_xa34_P0L.other W37 (Or.inl u37_xa34)
             have A_xb34_37 := A_xb34_P0L.other W37 (Ne.symm (own_nx nb_ea_0 (i := 1) (by rw [hD34]; rfl)))
             have A_xc34_37 := A_xc34_P0L.other W37 (Ne.symm (own_nx nb_ea_0 (i := 2) (by rw [hD34]; rfl)))
             have A_xd34_37 := A_xd34_P0L.other W37 (Ne.symm (own_nx nb_ea_0 (i := 3) (by rw [hD34]; rfl)))
             have N37 := Fr.snoc X37 NP0L ge_ea
             have Z37 : n0 ≤ h37.size := Nat.le_trans ZP0L (Keep.of_wr W37).1
             refine own_go (fun tg k => st37 tg k) ?_
             refine own_go (fun _ k => XS.istoreS X37.here hx rfl (hb hby d9_496) rfl rfl hj10P0 (XS.aloadN X37.here hx rfl (hb hby d9_498) rfl rfl k)) ?_
             obtain ⟨T38, X38, e38, st38⟩ := getF X37 hx hZ hown (host := "") (Or.inl (oW hw 117 rfl)) Via.refl e37 F_senders_r0_37 (g := (mkF m 499 #[oR r0, oI p1, .val (.long (own_tot (own_tot (0 : Int64) La) Lb)), oS, oI ps, oR ob, oI 2, oI 0, oR xa34, oI i, .val (.int (eL (gg34 i.toNatClampNeg).toNatClampNeg))] [(.ref r0)])) rfl rfl (hb hby d9_499)
             refine own_go (fun tg k => st38 tg k) ?_
             refine own_go (fun _ k => XS.iload X38.here hx rfl (hb hby d9_502) rfl (XS.aload X38.here hx rfl (hb hby d9_504) rfl rfl k)) ?_
             refine own_go (fun tg k => own_getFR X38 hx hZ hown (oW hw 169 rfl) e38 F_senders_xa34_37 (g := (mkF m 506 #[oR r0, oI p1, .val (.long (own_tot (own_tot (0 : Int64) La) Lb)), oS, oI ps, oR ob, oI 2, oI 0, oR xa34, oI i, .val (.int (eL (gg34 i.toNatClampNeg).toNatClampNeg))] [(.ref xa34), (.int (eL (gg34 i.toNatClampNeg).toNatClampNeg)), (.ref b17)])) rfl rfl (hb hby d9_506) tg k) ?_
             refine own_go (fun _ k => XS.iload X38.here hx rfl (hb hby d9_509) rfl k) ?_
             refine own_go (fun tg k => own_iaload X38 hx hZ e38 A_xb34_37 (j := i) (own_ib3 hl34 hI hc35) (x := (q134 i.toNatClampNeg)) rfl (g := (mkF m 511 #[oR r0, oI p1, .val (.long (own_tot (own_tot (0 : Int64) La) Lb)), oS, oI ps, oR ob, oI 2, oI 0, oR xa34, oI i, .val (.int (eL (gg34 i.toNatClampNeg).toNatClampNeg))] [(.int i), (.ref xb34), (.int (eL (gg34 i.toNatClampNeg).toNatClampNeg)), (.ref b17)])) rfl rfl (hb hby d9_511) tg k) ?_
             obtain ⟨T39, h39, X39, e39, W39, A_b17_39, st39⟩ := own_stI X38 hx hZ e38 A_b17_37 (j := (eL (gg34 i.toNatClampNeg).toNatClampNeg)) (own_place0 hn hl hm hS hc13 hl34 hg34 hI hc35) (g := (mkF m 512 #[oR r0, oI p1, .val (.long (own_tot (own_tot (0 : Int64) La) Lb)), oS, oI ps, oR ob, oI 2, oI 0, oR xa34, oI i, .val (.int (eL (gg34 i.toNatClampNeg).toNatClampNeg))] [(.int (q134 i.toNatClampNeg)), (.int (eL (gg34 i.toNatClampNeg).toNatClampNeg)), (.ref b17)])) rfl rfl (hb hby d9_512)
             have E_r0_39 := E_r0_37.wr W39
             have F_receivers_r0_39 := F_receivers_r0_37.other W39 (Or.inl ne_r0_b17)
             have F_outboxes_r0_39 := F_outboxes_r0_37.other W39 (Or.inl ne_r0_b17)
             have F_recipients_r0_39 := F_recipients_r0_37.other W39 (Or.inl ne_r0_b17)
             have F_delivered_r0_39 := F_delivered_r0_37.other W39 (Or.inl ne_r0_b17)
             have F_senders_r0_39 := F_senders_r0_37.other W39 (Or.inl ne_r0_b17)
             have F_messages_r0_39 := F_messages_r0_37.other W39 (Or.inl ne_r0_b17)
             have F_first_r0_39 := F_first_r0_37.other W39 (Or.inl ne_r0_b17)
             have F_end_r0_39 := F_end_r0_37.other W39 (Or.inl ne_r0_b17)
             have O_ob_39 := O_ob_37.other W39 ne_ob_b17
             have B_1_39 := B_1_37.other W39 nb_b17_1
             have E_rv_39 := E_rv_37.wr W39
             have F_words_rv_39 := F_words_rv_37.other W39 (Or.inl ne_rv_b17)
             have F_held_rv_39 := F_held_rv_37.other W39 (Or.inl ne_rv_b17)
             have F_blocks_rv_39 := F_blocks_rv_37.other W39 (Or.inl ne_rv_b17)
             have F_sorted_rv_39 := F_sorted_rv_37.other W39 (Or.inl ne_rv_b17)
             have E_il_39 := E_il_37.wr W39
             have F_indices_il_39 := F_indices_il_37.other W39 (Or.inl ne_il_b17)
             have F_size_il_39 := F_size_il_37.other W39 (Or.inl ne_il_b17)
             have A_ix_39 := A_ix_37.other W39 ne_ix_b17
             have A_wd_39 := A_wd_37.other W39 ne_wd_b17
             have A_hd_39 := A_hd_37.other W39 ne_hd_b17
             have A_fa_39 := A_fa_37.other W39 ne_fa_b17
             have A_ea_39 := A_ea_37.other W39 ne_ea_b17
             have A_b20_39 := A_b20_37.other W39 (Ne.symm ne_b17_b20)
             have E_xa34_39 := E_xa34_37.wr W39
             have u39_xa34 := (Ne.symm (own_nx nb_b17_0 (i := 0) (by rw [hD34]; rfl)))
             have F_size_xa34_39 := F_size_xa34_37.other W39 (Or.inl u39_xa34)
             have F_senders_xa34_39 := F_senders_xa34_37.other W39 (Or.inl u39_xa34)
             have F_receivers_xa34_39 := F_receivers_xa34_37.other W39 (Or.inl u39_xa34)
             have F_messages_xa34_39 := F_messages_xa34_37.other W39 (Or.inl u39_xa34)
             have A_xb34_39 := A_xb34_37.other W39 (Ne.symm (own_nx nb_b17_0 (i := 1) (by rw [hD34]; rfl)))
             have A_xc34_39 := A_xc34_37.other W39 (Ne.symm (own_nx nb_b17_0 (i := 2) (by rw [hD34]; rfl)))
             have A_xd34_39 := A_xd34_37.other W39 (Ne.symm (own_nx nb_b17_0 (i := 3) (by rw [hD34]; rfl)))
             have N39 := Fr.snoc X39 N37 ge_b17
             have Z39 : n0 ≤ h39.size := Nat.le_trans Z37 (Keep.of_wr W39).1
             refine own_go (fun tg k => st39 tg k) ?_
             refine own_go (fun _ k => XS.aloadN X39.here hx rfl (hb hby d9_513) rfl rfl k) ?_
             obtain ⟨T40, X40, e40, st40⟩ := getF X39 hx hZ hown (host := "") (Or.inl (oW hw 119 rfl)) Via.refl e39 F_messages_r0_39 (g := (mkF m 514 #[oR r0, oI p1, .val (.long (own_tot (own_tot (0 : Int64) La) Lb)), oS, oI ps, oR ob, oI 2, oI 0, oR xa34, oI i, .val (.int (eL (gg34 i.toNatClampNeg).toNatClampNeg))] [(.ref r0)])) rfl rfl (hb hby d9_514)
             refine own_go (fun tg k => st40 tg k) ?_
             refine own_go (fun _ k => XS.iload X40.here hx rfl (hb hby d9_517) rfl (XS.aload X40.here hx rfl (hb hby d9_519) rfl rfl k)) ?_
             refine own_go (fun tg k => own_getFR X40 hx hZ hown (oW hw 170 rfl) e40 F_messages_xa34_39 (g := (mkF m 521 #[oR r0, oI p1, .val (.long (own_tot (own_tot (0 : Int64) La) Lb)), oS, oI ps, oR ob, oI 2, oI 0, oR xa34, oI i, .val (.int (eL (gg34 i.toNatClampNeg).toNatClampNeg))] [(.ref xa34), (.int (eL (gg34 i.toNatClampNeg).toNatClampNeg)), (.ref b20)])) rfl rfl (hb hby d9_521) tg k) ?_
             refine own_go (fun _ k => XS.iload X40.here hx rfl (hb hby d9_524) rfl k) ?_
             refine own_go (fun tg k => own_laload X40 hx hZ e40 A_xd34_39 (j := i) (own_ib3 hl34 hI hc35) (x := (q334 i.toNatClampNeg)) rfl (g := (mkF m 526 #[oR r0, oI p1, .val (.long (own_tot (own_tot (0 : Int64) La) Lb)), oS, oI ps, oR ob, oI 2, oI 0, oR xa34, oI i, .val (.int (eL (gg34 i.toNatClampNeg).toNatClampNeg))] [(.int i), (.ref xd34), (.int (eL (gg34 i.toNatClampNeg).toNatClampNeg)), (.ref b20)])) rfl rfl (hb hby d9_526) tg k) ?_
             obtain ⟨T41, h41, X41, e41, W41, A_b20_41, st41⟩ := own_stJ X40 hx hZ e40 A_b20_39 (j := (eL (gg34 i.toNatClampNeg).toNatClampNeg)) (own_place0 hn hl hm hS hc13 hl34 hg34 hI hc35) (g := (mkF m 527 #[oR r0, oI p1, .val (.long (own_tot (own_tot (0 : Int64) La) Lb)), oS, oI ps, oR ob, oI 2, oI 0, oR xa34, oI i, .val (.int (eL (gg34 i.toNatClampNeg).toNatClampNeg))] [(.long (q334 i.toNatClampNeg)), (.int (eL (gg34 i.toNatClampNeg).toNatClampNeg)), (.ref b20)])) rfl rfl (hb hby d9_527)
             have E_r0_41 := E_r0_39.wr W41
             have F_receivers_r0_41 := F_receivers_r0_39.other W41 (Or.inl ne_r0_b20)
             have F_outboxes_r0_41 := F_outboxes_r0_39.other W41 (Or.inl ne_r0_b20)
             have F_recipients_r0_41 := F_recipients_r0_39.other W41 (Or.inl ne_r0_b20)
             have F_delivered_r0_41 := F_delivered_r0_39.other W41 (Or.inl ne_r0_b20)
             have F_senders_r0_41 := F_senders_r0_39.other W41 (Or.inl ne_r0_b20)
             have F_messages_r0_41 := F_messages_r0_39.other W41 (Or.inl ne_r0_b20)
             have F_first_r0_41 := F_first_r0_39.other W41 (Or.inl ne_r0_b20)
             have F_end_r0_41 := F_end_r0_39.other W41 (Or.inl ne_r0_b20)
             have O_ob_41 := O_ob_39.other W41 ne_ob_b20
             have B_1_41 := B_1_39.other W41 nb_b20_1
             have E_rv_41 := E_rv_39.wr W41
             have F_words_rv_41 := F_words_rv_39.other W41 (Or.inl ne_rv_b20)
             have F_held_rv_41 := F_held_rv_39.other W41 (Or.inl ne_rv_b20)
             have F_blocks_rv_41 := F_blocks_rv_39.other W41 (Or.inl ne_rv_b20)
             have F_sorted_rv_41 := F_sorted_rv_39.other W41 (Or.inl ne_rv_b20)
             have E_il_41 := E_il_39.wr W41
             have F_indices_il_41 := F_indices_il_39.other W41 (Or.inl ne_il_b20)
             have F_size_il_41 := F_size_il_39.other W41 (Or.inl ne_il_b20)
             have A_ix_41 := A_ix_39.other W41 ne_ix_b20
             have A_wd_41 := A_wd_39.other W41 ne_wd_b20
             have A_hd_41 := A_hd_39.other W41 ne_hd_b20
             have A_fa_41 := A_fa_39.other W41 ne_fa_b20
             have A_ea_41 := A_ea_39.other W41 ne_ea_b20
             have A_b17_41 := A_b17_39.other W41 ne_b17_b20
             have E_xa34_41 := E_xa34_39.wr W41
             have u41_xa34 := (Ne.symm (own_nx nb_b20_0 (i := 0) (by rw [hD34]; rfl)))
             have F_size_xa34_41 := F_size_xa34_39.other W41 (Or.inl u41_xa34)
             have F_senders_xa34_41 := F_senders_xa34_39.other W41 (Or.inl u41_xa34)
             have F_receivers_xa34_41 := F_receivers_xa34_39.other W41 (Or.inl u41_xa34)
             have F_messages_xa34_41 := F_messages_xa34_39.other W41 (Or.inl u41_xa34)
             have A_xb34_41 := A_xb34_39.other W41 (Ne.symm (own_nx nb_b20_0 (i := 1) (by rw [hD34]; rfl)))
             have A_xc34_41 := A_xc34_39.other W41 (Ne.symm (own_nx nb_b20_0 (i := 2) (by rw [hD34]; rfl)))
             have A_xd34_41 := A_xd34_39.other W41 (Ne.symm (own_nx nb_b20_0 (i := 3) (by rw [hD34]; rfl)))
             have N41 := Fr.snoc X41 N39 ge_b20
             have Z41 : n0 ≤ h41.size := Nat.le_trans Z39 (Keep.of_wr W41).1
             refine own_go (fun tg k => st41 tg k) ?_
             refine own_go (fun _ k => XS.iinc X41.here hx rfl (hb hby d9_528) rfl (l' := #[oR r0, oI p1, .val (.long (own_tot (own_tot (0 : Int64) La) Lb)), oS, oI ps, oR ob, oI 2, oI 0, oR xa34, .val (.int (i + (1 : Int32))), .val (.int (eL (gg34 i.toNatClampNeg).toNatClampNeg))]) rfl (XS.goto X41.here hx rfl (pc0 := 531) (pc' := 468) rfl (hb hby d9_531) (by decide) (by decide) k)) ?_
             show oF (T41.setTop (mkF m 468 #[oR r0, oI p1, .val (.long (own_tot (own_tot (0 : Int64) La) Lb)), oS, oI ps, oR ob, oI 2, oI 0, oR xa34, .val (.int (i + (1 : Int32))), .val (.int (eL (gg34 i.toNatClampNeg).toNatClampNeg))] []))
             exact ihP0 _ (own_I2m3 hl34 hI hc35 hkP0) ((i + (1 : Int32))) ((own_set eL (gg34 i.toNatClampNeg) ((eL (gg34 i.toNatClampNeg).toNatClampNeg) + (1 : Int32)))) ((own_set sL (eL (gg34 i.toNatClampNeg).toNatClampNeg) (q134 i.toNatClampNeg))) ((own_set mL (eL (gg34 i.toNatClampNeg).toNatClampNeg) (q334 i.toNatClampNeg))) T41 _ h41 (.val (.int (eL (gg34 i.toNatClampNeg).toNatClampNeg))) rfl (own_I3s hl34 hg34 hI hc35) (own_mono X41 (by decide) (by decide)) N41 e41 (One.val rfl) Z41 E_r0_41 F_receivers_r0_41 F_outboxes_r0_41 F_recipients_r0_41 F_delivered_r0_41 F_senders_r0_41 F_messages_r0_41 F_first_r0_41 F_end_r0_41 O_ob_41 B_1_41 E_rv_41 F_words_rv_41 F_held_rv_41 F_blocks_rv_41 F_sorted_rv_41 E_il_41 F_indices_il_41 F_size_il_41 A_ix_41 A_wd_41 A_hd_41 A_fa_41 A_ea_41 A_b17_41 A_b20_41 E_xa34_41 F_size_xa34_41 F_senders_xa34_41 F_receivers_xa34_41 F_messages_xa34_41 A_xb34_41 A_xc34_41 A_xd34_41
           · refine own_go (fun _ k => XS.icmpYes XP0L.here hx rfl (pc0 := 475) (pc' := 534) rfl (hb hby d9_475) rfl (flt hc35).2.1 (by decide) (by decide) k) ?_
             show oF (TP0L.setTop (mkF m 534 #[oR r0, oI p1, .val (.long (own_tot (own_tot (0 : Int64) La) Lb)), oS, oI ps, oR ob, oI 2, oI 0, oR xa34, oI i, j10P0] []))
             refine own_go (fun _ k => XS.aload XP0L.here hx rfl (hb hby d9_534) rfl rfl (XS.iconst XP0L.here hx rfl (hb hby d9_536) k)) ?_
             obtain ⟨T42, h42, X42, e42, W42, st42⟩ := own_putFR XP0L hx hZ hown (oW hw 113 rfl) eP0L F_size_xa34_P0L E_xa34_P0L (oW hw 85 rfl) (oW hw 64 rfl) (ty := .int) (by decide) rfl rfl (g := (mkF m 537 #[oR r0, oI p1, .val (.long (own_tot (own_tot (0 : Int64) La) Lb)), oS, oI ps, oR ob, oI 2, oI 0, oR xa34, oI i, j10P0] [(.int 0), (.ref xa34)])) rfl rfl (hb hby d9_537)
             have E_r0_42 := E_r0_P0L.wr W42
             have u42_r0 := (own_nx nb_r0_0 (i := 0) (by rw [hD34]; rfl))
             have F_receivers_r0_42 := F_receivers_r0_P0L.other W42 (Or.inl u42_r0)
             have F_outboxes_r0_42 := F_outboxes_r0_P0L.other W42 (Or.inl u42_r0)
             have F_recipients_r0_42 := F_recipients_r0_P0L.other W42 (Or.inl u42_r0)
             have F_delivered_r0_42 := F_delivered_r0_P0L.other W42 (Or.inl u42_r0)
             have F_senders_r0_42 := F_senders_r0_P0L.other W42 (Or.inl u42_r0)
             have F_messages_r0_42 := F_messages_r0_P0L.other W42 (Or.inl u42_r0)
             have F_first_r0_42 := F_first_r0_P0L.other W42 (Or.inl u42_r0)
             have F_end_r0_42 := F_end_r0_P0L.other W42 (Or.inl u42_r0)
             have O_ob_42 := O_ob_P0L.other W42 (Ne.symm (own_ne_oa E_xa34_P0L (oW hw 64 rfl) O_ob_P0L))
             have B_1_42 := B_1_P0L.other W42 (hdj xa34 (by rw [hD34]; simp))
             have E_rv_42 := E_rv_P0L.wr W42
             have u42_rv := (own_nx nb_rv_0 (i := 0) (by rw [hD34]; rfl))
             have F_words_rv_42 := F_words_rv_P0L.other W42 (Or.inl u42_rv)
             have F_held_rv_42 := F_held_rv_P0L.other W42 (Or.inl u42_rv)
             have F_blocks_rv_42 := F_blocks_rv_P0L.other W42 (Or.inl u42_rv)
             have F_sorted_rv_42 := F_sorted_rv_P0L.other W42 (Or.inl u42_rv)
             have E_il_42 := E_il_P0L.wr W42
             have u42_il := (own_nx nb_il_0 (i := 0) (by rw [hD34]; rfl))
             have F_indices_il_42 := F_indices_il_P0L.other W42 (Or.inl u42_il)
             have F_size_il_42 := F_size_il_P0L.other W42 (Or.inl u42_il)
             have A_ix_42 := A_ix_P0L.other W42 (own_nx nb_ix_0 (i := 0) (by rw [hD34]; rfl))
             have A_wd_42 := A_wd_P0L.other W42 (own_nx nb_wd_0 (i := 0) (by rw [hD34]; rfl))
             have A_hd_42 := A_hd_P0L.other W42 (own_nx nb_hd_0 (i := 0) (by rw [hD34]; rfl))
             have A_fa_42 := A_fa_P0L.other W42 (own_nx nb_fa_0 (i := 0) (by rw [hD34]; rfl))
             have A_ea_42 := A_ea_P0L.other W42 (own_nx nb_ea_0 (i := 0) (by rw [hD34]; rfl))
             have A_b17_42 := A_b17_P0L.other W42 (own_nx nb_b17_0 (i := 0) (by rw [hD34]; rfl))
             have A_b20_42 := A_b20_P0L.other W42 (own_nx nb_b20_0 (i := 0) (by rw [hD34]; rfl))
             have E_xa34_42 := E_xa34_P0L.wr W42
             have F_senders_xa34_42 := F_senders_xa34_P0L.other W42 (Or.inr (own_sn441 hw))
             have F_receivers_xa34_42 := F_receivers_xa34_P0L.other W42 (Or.inr (own_sn442 hw))
             have F_messages_xa34_42 := F_messages_xa34_P0L.other W42 (Or.inr (own_sn443 hw))
             have A_xb34_42 := A_xb34_P0L.other W42 (Ne.symm (own_ne_arf E_xa34_P0L (oW hw 64 rfl) A_xb34_P0L))
             have A_xc34_42 := A_xc34_P0L.other W42 (Ne.symm (own_ne_arf E_xa34_P0L (oW hw 64 rfl) A_xc34_P0L))
             have A_xd34_42 := A_xd34_P0L.other W42 (Ne.symm (own_ne_arf E_xa34_P0L (oW hw 64 rfl) A_xd34_P0L))
             have N42 := Fr.snoc X42 NP0L ge_xa34
             have Z42 : n0 ≤ h42.size := Nat.le_trans ZP0L (Keep.of_wr W42).1
             have F_size_xa34_42 := F_size_xa34_P0L.same W42
             refine own_go (fun tg k => st42 tg k) ?_
             show oF (T42.setTop (mkF m 540 #[oR r0, oI p1, .val (.long (own_tot (own_tot (0 : Int64) La) Lb)), oS, oI ps, oR ob, oI 2, oI 0, oR xa34, oI i, j10P0] []))
             exact hk23 (sL) (mL) T42 _ h42 (oR xa34) (oI i) (j10P0) (own_mono X42 (by decide) (by decide)) N42 e42 (One.val rfl) (One.val rfl) hj10P0 Z42 E_r0_42 F_receivers_r0_42 F_outboxes_r0_42 F_recipients_r0_42 F_delivered_r0_42 F_senders_r0_42 F_messages_r0_42 F_first_r0_42 F_end_r0_42 O_ob_42 (by rw [hv34, hD34]; exact own_Box.mk (by decide) rfl (fun i hi => absurd hi (Nat.not_lt_zero _)) ge_xa34 ge_xb34 ge_xc34 ge_xd34 ne_xb34_xc34 E_xa34_42 F_size_xa34_42 F_senders_xa34_42 F_receivers_xa34_42 F_messages_xa34_42 A_xb34_42 A_xc34_42 A_xd34_42) B_1_42 E_rv_42 F_words_rv_42 F_held_rv_42 F_blocks_rv_42 F_sorted_rv_42 E_il_42 F_indices_il_42 F_size_il_42 A_ix_42 A_wd_42 A_hd_42 A_fa_42 (by rw [← own_I3x hl34 hI hc35]; exact A_ea_42) A_b17_42 A_b20_42
         exact loopP0 _ ((0 : Int32)) (eF) ((fun _ => (0 : Int32))) ((fun _ => (0 : Int64))) T22 _ h21 (.unset) rfl (own_I30 _ _) (own_mono X22 (by decide) (by decide)) N21 e22 One.u Z21 E_r0_21 F_receivers_r0_21 F_outboxes_r0_21 F_recipients_r0_21 F_delivered_r0_21 F_senders_r0_21 F_messages_r0_21 F_first_r0_21 F_end_r0_21 O_ob_21 B_1_21 E_rv_21 F_words_rv_21 F_held_rv_21 F_blocks_rv_21 F_sorted_rv_21 E_il_21 F_indices_il_21 F_size_il_21 A_ix_21 A_wd_21 A_hd_21 A_fa_21 A_ea_21 A_b17_21 A_b20_21 E_xa34_o F_size_xa34_o F_senders_xa34_o F_receivers_xa34_o F_messages_xa34_o A_xb34_o A_xc34_o A_xd34_o
     · refine own_go (fun _ k => XS.ifNo XSL.here hx rfl (hb hby d9_350) rfl ((if0 _ _).trans (flt hc13).1) (XS.aloadN XSL.here hx rfl (hb hby d9_353) rfl rfl k)) ?_
       obtain ⟨T43, X43, e43, st43⟩ := getF XSL hx hZ hown (host := "") (Or.inl (oW hw 121 rfl)) Via.refl eSL F_first_r0_SL (g := (mkF m 354 #[oR r0, oI p1, .val (.long (own_tot (own_tot (0 : Int64) La) Lb)), oS, oI ps, oI 0, oI 0, oI v, j83, j93, oU] [(.ref r0)])) rfl rfl (hb hby d9_354)
       refine own_go (fun tg k => st43 tg k) ?_
       refine own_go (fun _ k => XS.iload X43.here hx rfl (hb hby d9_357) rfl (XS.iload X43.here hx rfl (hb hby d9_359) rfl k)) ?_
       obtain ⟨T44, h44, X44, e44, W44, A_fa_44, st44⟩ := own_stI X43 hx hZ e43 A_fa_SL (j := v) (own_SIb hS hc13) (g := (mkF m 361 #[oR r0, oI p1, .val (.long (own_tot (own_tot (0 : Int64) La) Lb)), oS, oI ps, oI 0, oI 0, oI v, j83, j93, oU] [(.int ps), (.int v), (.ref fa)])) rfl rfl (hb hby d9_361)
       have E_r0_44 := E_r0_SL.wr W44
       have u44_r0 := (own_ne_arf E_r0_SL (oW hw 2 rfl) A_fa_SL)
       have F_receivers_r0_44 := F_receivers_r0_SL.other W44 (Or.inl u44_r0)
       have F_outboxes_r0_44 := F_outboxes_r0_SL.other W44 (Or.inl u44_r0)
       have F_recipients_r0_44 := F_recipients_r0_SL.other W44 (Or.inl u44_r0)
       have F_delivered_r0_44 := F_delivered_r0_SL.other W44 (Or.inl u44_r0)
       have F_senders_r0_44 := F_senders_r0_SL.other W44 (Or.inl u44_r0)
       have F_messages_r0_44 := F_messages_r0_SL.other W44 (Or.inl u44_r0)
       have F_first_r0_44 := F_first_r0_SL.other W44 (Or.inl u44_r0)
       have F_end_r0_44 := F_end_r0_SL.other W44 (Or.inl u44_r0)
       have O_ob_44 := O_ob_SL.other W44 (Ne.symm (own_ne_oarf A_fa_SL O_ob_SL (by decide)))
       have B_0_44 := B_0_SL.other W44 nb_fa_0
       have B_1_44 := B_1_SL.other W44 nb_fa_1
       have E_rv_44 := E_rv_SL.wr W44
       have u44_rv := (own_ne_arf E_rv_SL (oW hw 27 rfl) A_fa_SL)
       have F_words_rv_44 := F_words_rv_SL.other W44 (Or.inl u44_rv)
       have F_held_rv_44 := F_held_rv_SL.other W44 (Or.inl u44_rv)
       have F_blocks_rv_44 := F_blocks_rv_SL.other W44 (Or.inl u44_rv)
       have F_sorted_rv_44 := F_sorted_rv_SL.other W44 (Or.inl u44_rv)
       have E_il_44 := E_il_SL.wr W44
       have u44_il := (own_ne_arf E_il_SL (oW hw 38 rfl) A_fa_SL)
       have F_indices_il_44 := F_indices_il_SL.other W44 (Or.inl u44_il)
       have F_size_il_44 := F_size_il_SL.other W44 (Or.inl u44_il)
       have A_ix_44 := A_ix_SL.other W44 ne_ix_fa
       have A_wd_44 := A_wd_SL.other W44 (own_ne_ty A_wd_SL A_fa_SL (by decide))
       have A_hd_44 := A_hd_SL.other W44 (own_ne_ty A_hd_SL A_fa_SL (by decide))
       have A_ea_44 := A_ea_SL.other W44 (Ne.symm ne_fa_ea)
       have N44 := Fr.snoc X44 NSL ge_fa
       have Z44 : n0 ≤ h44.size := Nat.le_trans ZSL (Keep.of_wr W44).1
       refine own_go (fun tg k => st44 tg k) ?_
       refine own_go (fun _ k => XS.iload X44.here hx rfl (hb hby d9_362) rfl (XS.aloadN X44.here hx rfl (hb hby d9_364) rfl rfl k)) ?_
       obtain ⟨T45, X45, e45, st45⟩ := getF X44 hx hZ hown (host := "") (Or.inl (oW hw 123 rfl)) Via.refl e44 F_end_r0_44 (g := (mkF m 365 #[oR r0, oI p1, .val (.long (own_tot (own_tot (0 : Int64) La) Lb)), oS, oI ps, oI 0, oI 0, oI v, j83, j93, oU] [(.ref r0), (.int ps)])) rfl rfl (hb hby d9_365)
       refine own_go (fun tg k => st45 tg k) ?_
       refine own_go (fun _ k => XS.iload X45.here hx rfl (hb hby d9_368) rfl k) ?_
       refine own_go (fun tg k => own_iaload X45 hx hZ e45 A_ea_44 (j := v) (own_SIb hS hc13) (x := (eF v.toNatClampNeg)) rfl (g := (mkF m 370 #[oR r0, oI p1, .val (.long (own_tot (own_tot (0 : Int64) La) Lb)), oS, oI ps, oI 0, oI 0, oI v, j83, j93, oU] [(.int v), (.ref ea), (.int ps)])) rfl rfl (hb hby d9_370) tg k) ?_
       refine own_go (fun _ k => XS.iadd X45.here hx rfl (hb hby d9_371) rfl (XS.istore X45.here hx rfl (hb hby d9_372) rfl (l' := #[oR r0, oI p1, .val (.long (own_tot (own_tot (0 : Int64) La) Lb)), oS, .val (.int (ps + (eF v.toNatClampNeg))), oI 0, oI 0, oI v, j83, j93, oU]) rfl (XS.aloadN X45.here hx rfl (hb hby d9_374) rfl rfl k))) ?_
       obtain ⟨T46, X46, e46, st46⟩ := getF X45 hx hZ hown (host := "") (Or.inl (oW hw 123 rfl)) Via.refl e45 F_end_r0_44 (g := (mkF m 375 #[oR r0, oI p1, .val (.long (own_tot (own_tot (0 : Int64) La) Lb)), oS, .val (.int (ps + (eF v.toNatClampNeg))), oI 0, oI 0, oI v, j83, j93, oU] [(.ref r0)])) rfl rfl (hb hby d9_375)
       refine own_go (fun tg k => st46 tg k) ?_
       refine own_go (fun _ k => XS.iload X46.here hx rfl (hb hby d9_378) rfl (XS.aloadN X46.here hx rfl (hb hby d9_380) rfl rfl k)) ?_
       obtain ⟨T47, X47, e47, st47⟩ := getF X46 hx hZ hown (host := "") (Or.inl (oW hw 121 rfl)) Via.refl e46 F_first_r0_44 (g := (mkF m 381 #[oR r0, oI p1, .val (.long (own_tot (own_tot (0 : Int64) La) Lb)), oS, .val (.int (ps + (eF v.toNatClampNeg))), oI 0, oI 0, oI v, j83, j93, oU] [(.ref r0), (.int v), (.ref ea)])) rfl rfl (hb hby d9_381)
       refine own_go (fun tg k => st47 tg k) ?_
       refine own_go (fun _ k => XS.iload X47.here hx rfl (hb hby d9_384) rfl k) ?_
       refine own_go (fun tg k => own_iaload X47 hx hZ e47 A_fa_44 (j := v) (own_SIb hS hc13) (x := ((own_set fF v ps) v.toNatClampNeg)) rfl (g := (mkF m 386 #[oR r0, oI p1, .val (.long (own_tot (own_tot (0 : Int64) La) Lb)), oS, .val (.int (ps + (eF v.toNatClampNeg))), oI 0, oI 0, oI v, j83, j93, oU] [(.int v), (.ref fa), (.int v), (.ref ea)])) rfl rfl (hb hby d9_386) tg k) ?_
       obtain ⟨T48, h48, X48, e48, W48, A_ea_48, st48⟩ := own_stI X47 hx hZ e47 A_ea_44 (j := v) (own_SIb hS hc13) (g := (mkF m 387 #[oR r0, oI p1, .val (.long (own_tot (own_tot (0 : Int64) La) Lb)), oS, .val (.int (ps + (eF v.toNatClampNeg))), oI 0, oI 0, oI v, j83, j93, oU] [(.int ((own_set fF v ps) v.toNatClampNeg)), (.int v), (.ref ea)])) rfl rfl (hb hby d9_387)
       have E_r0_48 := E_r0_44.wr W48
       have u48_r0 := (own_ne_arf E_r0_44 (oW hw 2 rfl) A_ea_44)
       have F_receivers_r0_48 := F_receivers_r0_44.other W48 (Or.inl u48_r0)
       have F_outboxes_r0_48 := F_outboxes_r0_44.other W48 (Or.inl u48_r0)
       have F_recipients_r0_48 := F_recipients_r0_44.other W48 (Or.inl u48_r0)
       have F_delivered_r0_48 := F_delivered_r0_44.other W48 (Or.inl u48_r0)
       have F_senders_r0_48 := F_senders_r0_44.other W48 (Or.inl u48_r0)
       have F_messages_r0_48 := F_messages_r0_44.other W48 (Or.inl u48_r0)
       have F_first_r0_48 := F_first_r0_44.other W48 (Or.inl u48_r0)
       have F_end_r0_48 := F_end_r0_44.other W48 (Or.inl u48_r0)
       have O_ob_48 := O_ob_44.other W48 (Ne.symm (own_ne_oarf A_ea_44 O_ob_44 (by decide)))
       have B_0_48 := B_0_44.other W48 nb_ea_0
       have B_1_48 := B_1_44.other W48 nb_ea_1
       have E_rv_48 := E_rv_44.wr W48
       have u48_rv := (own_ne_arf E_rv_44 (oW hw 27 rfl) A_ea_44)
       have F_words_rv_48 := F_words_rv_44.other W48 (Or.inl u48_rv)
       have F_held_rv_48 := F_held_rv_44.other W48 (Or.inl u48_rv)
       have F_blocks_rv_48 := F_blocks_rv_44.other W48 (Or.inl u48_rv)
       have F_sorted_rv_48 := F_sorted_rv_44.other W48 (Or.inl u48_rv)
       have E_il_48 := E_il_44.wr W48
       have u48_il := (own_ne_arf E_il_44 (oW hw 38 rfl) A_ea_44)
       have F_indices_il_48 := F_indices_il_44.other W48 (Or.inl u48_il)
       have F_size_il_48 := F_size_il_44.other W48 (Or.inl u48_il)
       have A_ix_48 := A_ix_44.other W48 ne_ix_ea
       have A_wd_48 := A_wd_44.other W48 (own_ne_ty A_wd_44 A_ea_44 (by decide))
       have A_hd_48 := A_hd_44.other W48 (own_ne_ty A_hd_44 A_ea_44 (by decide))
       have A_fa_48 := A_fa_44.other W48 ne_fa_ea
       have N48 := Fr.snoc X48 N44 ge_ea
       have Z48 : n0 ≤ h48.size := Nat.le_trans Z44 (Keep.of_wr W48).1
       refine own_go (fun tg k => st48 tg k) ?_
       refine own_go (fun _ k => XS.aloadN X48.here hx rfl (hb hby d9_388) rfl rfl k) ?_
       obtain ⟨T49, X49, e49, st49⟩ := getF X48 hx hZ hown (host := "") (Or.inl (oW hw 57 rfl)) Via.refl e48 F_recipients_r0_48 (g := (mkF m 389 #[oR r0, oI p1, .val (.long (own_tot (own_tot (0 : Int64) La) Lb)), oS, .val (.int (ps + (eF v.toNatClampNeg))), oI 0, oI 0, oI v, j83, j93, oU] [(.ref r0)])) rfl rfl (hb hby d9_389)
       refine own_go (fun tg k => st49 tg k) ?_
       refine own_go (fun _ k => XS.iload X49.here hx rfl (hb hby d9_392) rfl (XS.iload X49.here hx rfl (hb hby d9_394) rfl (XS.iconst X49.here hx rfl (hb hby d9_396) (XS.iadd X49.here hx rfl (hb hby d9_397) rfl k)))) ?_
       obtain ⟨cq50, kq50, q50a, q50b, q50c⟩ := isOf hZ e49 E_rv_48
       obtain ⟨_, _, ⟨T50, L50, k50, n50⟩, -, X50, ⟨Lc50, hQ50, l50, y50, z50⟩, st50⟩ := X49.virtualBack hx (y := oM20) (z := oM20) hown (mvT hZ (oW hw 155 rfl)) (mvT hZ (oW hw 156 rfl)) (notFace_of_selects (args := #[]) (mvT hZ (oW hw 158 rfl))) (mvT hZ (oW hw 158 rfl)) (mvT hZ (oW hw 157 rfl)) (by decide) (backOf (W := 0) (rm20 l Z a0 hw [] rv (v + (1 : Int32)) wd (own_or (own_or (0 : Int64) La) Lb) h48 n0 Z48 F_words_rv_48 A_wd_48 (own_SIn hS hc13)) hZ (oW hw 159 rfl) (oW hw 28 rfl) (by decide) (by decide)) q50a q50c (g := (mkF m 398 #[oR r0, oI p1, .val (.long (own_tot (own_tot (0 : Int64) La) Lb)), oS, .val (.int (ps + (eF v.toNatClampNeg))), oI 0, oI 0, oI v, j83, j93, oU] [(.int (v + (1 : Int32))), (.int 0), (.ref rv)])) rfl (by rw [hml]; rfl) (Steps.refl _) (argsL := [(.int 0), (.int (v + (1 : Int32)))]) (rest := []) (lenOf own_pd504 rfl) rfl (by show 2 * 0 + _ ≤ _; exact Nat.le_of_eq rfl) (hb hby d9_398) (fun _ _ => ⟨rfl, e49, (by decide : 2 + 0 ≤ _), (by decide : 8 + 0 ≤ _)⟩)
       dsimp only [Pt.U, Pt.locs, Pt.cells, Pt.slots] at X50 l50 y50 z50 st50 hQ50
       replace y50 : 2 = k50 := y50.symm
       replace z50 : 8 = n50 := z50.symm
       subst y50 z50
       obtain ⟨rfl, N50q, e50⟩ := hQ50
       have N50 : Fr n0 L50 := by rw [l50]; exact Fr.app N48 N50q
       refine own_go (fun tg k => st50.trans k) ?_
       show oF (T50.setTop (mkF m 401 #[oR r0, oI p1, .val (.long (own_tot (own_tot (0 : Int64) La) Lb)), oS, .val (.int (ps + (eF v.toNatClampNeg))), oI 0, oI 0, oI v, j83, j93, oU] [(.int (own_nxt (own_or (own_or (0 : Int64) La) Lb) (v + (1 : Int32))))]))
       refine own_go (fun _ k => XS.istore X50.here hx rfl (hb hby d9_401) rfl (l' := #[oR r0, oI p1, .val (.long (own_tot (own_tot (0 : Int64) La) Lb)), oS, .val (.int (ps + (eF v.toNatClampNeg))), oI 0, oI 0, .val (.int (own_nxt (own_or (own_or (0 : Int64) La) Lb) (v + (1 : Int32)))), j83, j93, oU]) rfl (XS.goto X50.here hx rfl (pc0 := 403) (pc' := 348) rfl (hb hby d9_403) (by decide) (by decide) k)) ?_
       show oF (T50.setTop (mkF m 348 #[oR r0, oI p1, .val (.long (own_tot (own_tot (0 : Int64) La) Lb)), oS, .val (.int (ps + (eF v.toNatClampNeg))), oI 0, oI 0, .val (.int (own_nxt (own_or (own_or (0 : Int64) La) Lb) (v + (1 : Int32)))), j83, j93, oU] []))
       exact ihS _ (own_SIm hS hc13 hkS) ((own_nxt (own_or (own_or (0 : Int64) La) Lb) (v + (1 : Int32)))) ((ps + (eF v.toNatClampNeg))) ((own_set fF v ps)) ((own_set eF v ((own_set fF v ps) v.toNatClampNeg))) (fu - 1) T50 _ h48 rfl (own_SIs hn hm hS hc13) (own_mono X50 (by decide) (by decide)) N50 e50 Z48 E_r0_48 F_receivers_r0_48 F_outboxes_r0_48 F_recipients_r0_48 F_delivered_r0_48 F_senders_r0_48 F_messages_r0_48 F_first_r0_48 F_end_r0_48 O_ob_48 B_0_48 B_1_48 E_rv_48 F_words_rv_48 F_held_rv_48 F_blocks_rv_48 F_sorted_rv_48 E_il_48 F_indices_il_48 F_size_il_48 A_ix_48 A_wd_48 A_hd_48 A_fa_48 A_ea_48
   exact loopS _ ((own_nxt (own_or (own_or (0 : Int64) La) Lb) (0 : Int32))) ((0 : Int32)) ((fun _ => (0 : Int32))) ((own_cnt (own_cnt (fun _ => (0 : Int32)) La) Lb)) (5) T12 _ h3L rfl (own_SI0 hn hm) (own_mono X12 (by decide) (by decide)) N12 e12 Z3L E_r0_3L F_receivers_r0_3L F_outboxes_r0_3L F_recipients_r0_3L F_delivered_r0_3L F_senders_r0_3L F_messages_r0_3L F_first_r0_3L F_end_r0_3L O_ob_3L B_0_3L B_1_3L E_rv_3L F_words_rv_3L F_held_rv_3L F_blocks_rv_3L F_sorted_rv_3L E_il_3L F_indices_il_3L F_size_il_3L A_ix_3L A_wd_3L A_hd_3L A_fa_3L A_ea_3L
  obtain ⟨hl51, ⟨hv51, hD51, hL51⟩ | ⟨xa51, xb51, xc51, xd51, q151, gg51, q351, hv51, hD51, hB51, hg51⟩⟩ := id B_1_2L
  · refine own_vr hv51 ?_
    show oF (T2L.setTop (mkF m 233 #[oR r0, oI p1, .val (.long (own_tot (own_tot (0 : Int64) La) Lb)), oS, oR ob, oI 2, oI 1, j72, j82, j92, oU] [.null]))
    refine own_go (fun _ k => XS.astoreS X2L.here hx rfl (hb hby d9_233) rfl rfl rfl rfl hj72 (XS.aload X2L.here hx rfl (hb hby d9_235) rfl rfl (XS.ifnullYes X2L.here hx rfl (pc0 := 237) (pc' := 289) rfl (hb hby d9_237) rfl (by decide) (by decide) k))) ?_
    show oF (T2L.setTop (mkF m 289 #[oR r0, oI p1, .val (.long (own_tot (own_tot (0 : Int64) La) Lb)), oS, oR ob, oI 2, oI 1, .val .null, j82, j92, oU] []))
    exact hk3  T2L _ h2L (.val .null) (j82) (j92) (own_mono X2L (by decide) (by decide)) N2L e2L (One.val rfl) hj82 hj92 Z2L E_r0_2L F_receivers_r0_2L F_outboxes_r0_2L F_recipients_r0_2L F_delivered_r0_2L F_senders_r0_2L F_messages_r0_2L F_first_r0_2L F_end_r0_2L O_ob_2L B_0_2L B_1_2L E_rv_2L F_words_rv_2L F_held_rv_2L F_blocks_rv_2L F_sorted_rv_2L E_il_2L F_indices_il_2L (by rw [hL51]; exact F_size_il_2L) (by rw [hL51]; exact A_ix_2L) (by rw [hL51]; exact A_wd_2L) (by rw [hL51]; exact A_hd_2L) A_fa_2L (by rw [hL51]; exact A_ea_2L)
  · refine own_vr hv51 ?_
    show oF (T2L.setTop (mkF m 233 #[oR r0, oI p1, .val (.long (own_tot (own_tot (0 : Int64) La) Lb)), oS, oR ob, oI 2, oI 1, j72, j82, j92, oU] [(.ref xa51)]))
    obtain ⟨⟨ge_xa51, ge_xb51, ge_xc51, ge_xd51, ne_xb51_xc51⟩, E_xa51_o, F_size_xa51_o, F_senders_xa51_o, F_receivers_xa51_o, F_messages_xa51_o, A_xb51_o, A_xc51_o, A_xd51_o⟩ := hB51
    refine own_go (fun _ k => XS.astoreS X2L.here hx rfl (hb hby d9_233) rfl rfl rfl rfl hj72 (XS.aload X2L.here hx rfl (hb hby d9_235) rfl rfl (XS.ifnullNo X2L.here hx rfl (hb hby d9_237) rfl (XS.iconst X2L.here hx rfl (hb hby d9_240) (XS.istoreS X2L.here hx rfl (hb hby d9_241) rfl rfl hj82 k))))) ?_
    show oF (T2L.setTop (mkF m 243 #[oR r0, oI p1, .val (.long (own_tot (own_tot (0 : Int64) La) Lb)), oS, oR ob, oI 2, oI 1, oR xa51, oI 0, j92, oU] []))
    have loopA1 : ∀ (kA1 : Nat) (i : Int32) (eL : Nat → Int32) (wL : Int64) (bL : Int32) (fL : Nat → Int32) (TA1L : State) (LA1L : List Loc) (hA1L : Heap) (j9A1 : Slot), kA1 = Lb.length - i.toNatClampNeg → own_I2 (own_cnt (fun _ => (0 : Int32)) La) (own_or (0 : Int64) La) (own_b (0 : Int32) La) (own_gi (0 : Int32) fi La) Lb i eL wL bL fL → Stand p l e rm9t_room s m #[(.ref r0), (.int p1)] below meth c TA1L LA1L 2 8 → Fr n0 LA1L → TA1L.heap = hA1L → One j9A1 → n0 ≤ hA1L.size → Exa Z hA1L r0 oC0 → Fld Z hA1L r0 oC0 "receivers" "I" (.int n) → Fld Z hA1L r0 oC0 "outboxes" oC4 (.ref ob) → Fld Z hA1L r0 oC0 "recipients" oC6 (.ref rv) → Fld Z hA1L r0 oC0 "delivered" "I" (.int ((own_tot (own_tot (0 : Int64) La) Lb).toInt32)) → Fld Z hA1L r0 oC0 "senders" "[I" .null → Fld Z hA1L r0 oC0 "messages" "[J" .null → Fld Z hA1L r0 oC0 "first" "[I" (.ref fa) → Fld Z hA1L r0 oC0 "end" "[I" (.ref ea) → own_Oa Z hA1L ob oC2 v0 v1 → own_Box Z hA1L n0 v0 Da La → own_Box Z hA1L n0 v1 Db Lb → Exa Z hA1L rv oC1 → Fld Z hA1L rv oC1 "words" "[J" (.ref wd) → Fld Z hA1L rv oC1 "held" "[Z" (.ref hd) → Fld Z hA1L rv oC1 "blocks" oC5 (.ref il) → Fld Z hA1L rv oC1 "sorted" "Z" (.int 1) → Exa Z hA1L il oC3 → Fld Z hA1L il oC3 "indices" "[I" (.ref ix) → Fld Z hA1L il oC3 "size" "I" (.int bL) → own_Arf Z hA1L ix .int (16 : Int32) (fun i => .int (fL i)) → own_Arf Z hA1L wd .long (16 : Int32) (fun i => .long ((own_w0 wL) i)) → own_Arf Z hA1L hd .boolean (1 : Int32) (fun i => .int ((fun _ => bL) i)) → own_Arf Z hA1L fa .int n (fun i => .int ((fun _ => (0 : Int32)) i)) → own_Arf Z hA1L ea .int n (fun i => .int (eL i)) → Exa Z hA1L xa51 oC2 → Fld Z hA1L xa51 oC2 "size" "I" (.int (Int32.ofNat Lb.length)) → Fld Z hA1L xa51 oC2 "senders" "[I" (.ref xb51) → Fld Z hA1L xa51 oC2 "receivers" "[I" (.ref xc51) → Fld Z hA1L xa51 oC2 "messages" "[J" (.ref xd51) → own_Arf Z hA1L xb51 .int (16 : Int32) (fun i => .int (q151 i)) → own_Arf Z hA1L xc51 .int (16 : Int32) (fun i => .int (gg51 i)) → own_Arf Z hA1L xd51 .long (16 : Int32) (fun i => .long (q351 i)) → own_Fin p.tables e below s (Qrm9t Z r0 p1 n ob rv fa ea v0 v1 Da Db La Lb wd hd il ix fi h0 n0) rm9t_room.cells rm9t_room.slots (TA1L.setTop (mkF m 243 #[oR r0, oI p1, .val (.long (own_tot (own_tot (0 : Int64) La) Lb)), oS, oR ob, oI 2, oI 1, oR xa51, oI i, j9A1, oU] [])) := by
     intro kA1
     induction kA1 using Nat.strongRecOn with
     | _ kA1 ihA1 =>
      intro i eL wL bL fL TA1L LA1L hA1L j9A1 hkA1 hI XA1L NA1L eA1L hj9A1 ZA1L E_r0_A1L F_receivers_r0_A1L F_outboxes_r0_A1L F_recipients_r0_A1L F_delivered_r0_A1L F_senders_r0_A1L F_messages_r0_A1L F_first_r0_A1L F_end_r0_A1L O_ob_A1L B_0_A1L B_1_A1L E_rv_A1L F_words_rv_A1L F_held_rv_A1L F_blocks_rv_A1L F_sorted_rv_A1L E_il_A1L F_indices_il_A1L F_size_il_A1L A_ix_A1L A_wd_A1L A_hd_A1L A_fa_A1L A_ea_A1L E_xa51_A1L F_size_xa51_A1L F_senders_xa51_A1L F_receivers_xa51_A1L F_messages_xa51_A1L A_xb51_A1L A_xc51_A1L A_xd51_A1L
      show oF (TA1L.setTop (mkF m 243 #[oR r0, oI p1, .val (.long (own_tot (own_tot (0 : Int64) La) Lb)), oS, oR ob, oI 2, oI 1, oR xa51, oI i, j9A1, oU] []))
      refine own_go (fun _ k => XS.iload XA1L.here hx rfl (hb hby d9_243) rfl (XS.aload XA1L.here hx rfl (hb hby d9_245) rfl rfl k)) ?_
      refine own_go (fun tg k => own_getFR XA1L hx hZ hown (oW hw 113 rfl) eA1L F_size_xa51_A1L (g := (mkF m 247 #[oR r0, oI p1, .val (.long (own_tot (own_tot (0 : Int64) La) Lb)), oS, oR ob, oI 2, oI 1, oR xa51, oI i, j9A1, oU] [(.ref xa51), (.int i)])) rfl rfl (hb hby d9_247) tg k) ?_
      by_cases hc52 : i < (Int32.ofNat Lb.length)
      · refine own_go (fun _ k => XS.icmpNo XA1L.here hx rfl (hb hby d9_250) rfl (tlt hc52).2.1 (XS.aload XA1L.here hx rfl (hb hby d9_253) rfl rfl k)) ?_
        refine own_go (fun tg k => own_getFR XA1L hx hZ hown (oW hw 125 rfl) eA1L F_receivers_xa51_A1L (g := (mkF m 255 #[oR r0, oI p1, .val (.long (own_tot (own_tot (0 : Int64) La) Lb)), oS, oR ob, oI 2, oI 1, oR xa51, oI i, j9A1, oU] [(.ref xa51)])) rfl rfl (hb hby d9_255) tg k) ?_
        refine own_go (fun _ k => XS.iload XA1L.here hx rfl (hb hby d9_258) rfl k) ?_
        refine own_go (fun tg k => own_iaload XA1L hx hZ eA1L A_xc51_A1L (j := i) (own_ib hl51 hI hc52) (x := (gg51 i.toNatClampNeg)) rfl (g := (mkF m 260 #[oR r0, oI p1, .val (.long (own_tot (own_tot (0 : Int64) La) Lb)), oS, oR ob, oI 2, oI 1, oR xa51, oI i, j9A1, oU] [(.int i), (.ref xc51)])) rfl rfl (hb hby d9_260) tg k) ?_
        refine own_go (fun _ k => XS.istoreS XA1L.here hx rfl (hb hby d9_261) rfl rfl hj9A1 (XS.aloadN XA1L.here hx rfl (hb hby d9_263) rfl rfl k)) ?_
        obtain ⟨T53, X53, e53, st53⟩ := getF XA1L hx hZ hown (host := "") (Or.inl (oW hw 123 rfl)) Via.refl eA1L F_end_r0_A1L (g := (mkF m 264 #[oR r0, oI p1, .val (.long (own_tot (own_tot (0 : Int64) La) Lb)), oS, oR ob, oI 2, oI 1, oR xa51, oI i, .val (.int (gg51 i.toNatClampNeg)), oU] [(.ref r0)])) rfl rfl (hb hby d9_264)
        refine own_go (fun tg k => st53 tg k) ?_
        refine own_go (fun _ k => XS.iload X53.here hx rfl (hb hby d9_267) rfl k) ?_
        refine own_go (fun _ k => Jvm.Free.XT.dup2 X53.here hx rfl (hb hby d9_269) rfl rfl rfl k) ?_
        refine own_go (fun tg k => own_iaload X53 hx hZ e53 A_ea_A1L (j := (gg51 i.toNatClampNeg)) (own_mem1 hm (own_gi_mem hl51 hg51 hI hc52)) (x := (eL (gg51 i.toNatClampNeg).toNatClampNeg)) rfl (g := (mkF m 270 #[oR r0, oI p1, .val (.long (own_tot (own_tot (0 : Int64) La) Lb)), oS, oR ob, oI 2, oI 1, oR xa51, oI i, .val (.int (gg51 i.toNatClampNeg)), oU] [(.int (gg51 i.toNatClampNeg)), (.ref ea), (.int (gg51 i.toNatClampNeg)), (.ref ea)])) rfl rfl (hb hby d9_270) tg k) ?_
        refine own_go (fun _ k => XS.iconst X53.here hx rfl (hb hby d9_271) (XS.iadd X53.here hx rfl (hb hby d9_272) rfl k)) ?_
        obtain ⟨T54, h54, X54, e54, W54, A_ea_54, st54⟩ := own_stI X53 hx hZ e53 A_ea_A1L (j := (gg51 i.toNatClampNeg)) (own_mem1 hm (own_gi_mem hl51 hg51 hI hc52)) (g := (mkF m 273 #[oR r0, oI p1, .val (.long (own_tot (own_tot (0 : Int64) La) Lb)), oS, oR ob, oI 2, oI 1, oR xa51, oI i, .val (.int (gg51 i.toNatClampNeg)), oU] [(.int ((eL (gg51 i.toNatClampNeg).toNatClampNeg) + (1 : Int32))), (.int (gg51 i.toNatClampNeg)), (.ref ea)])) rfl rfl (hb hby d9_273)
        have E_r0_54 := E_r0_A1L.wr W54
        have u54_r0 := (own_ne_arf E_r0_A1L (oW hw 2 rfl) A_ea_A1L)
        have F_receivers_r0_54 := F_receivers_r0_A1L.other W54 (Or.inl u54_r0)
        have F_outboxes_r0_54 := F_outboxes_r0_A1L.other W54 (Or.inl u54_r0)
        have F_recipients_r0_54 := F_recipients_r0_A1L.other W54 (Or.inl u54_r0)
        have F_delivered_r0_54 := F_delivered_r0_A1L.other W54 (Or.inl u54_r0)
        have F_senders_r0_54 := F_senders_r0_A1L.other W54 (Or.inl u54_r0)
        have F_messages_r0_54 := F_messages_r0_A1L.other W54 (Or.inl u54_r0)
        have F_first_r0_54 := F_first_r0_A1L.other W54 (Or.inl u54_r0)
        have F_end_r0_54 := F_end_r0_A1L.other W54 (Or.inl u54_r0)
        have O_ob_54 := O_ob_A1L.other W54 (Ne.symm (own_ne_oarf A_ea_A1L O_ob_A1L (by decide)))
        have B_0_54 := B_0_A1L.other W54 nb_ea_0
        have B_1_54 := B_1_A1L.other W54 nb_ea_1
        have E_rv_54 := E_rv_A1L.wr W54
        have u54_rv := (own_ne_arf E_rv_A1L (oW hw 27 rfl) A_ea_A1L)
        have F_words_rv_54 := F_words_rv_A1L.other W54 (Or.inl u54_rv)
        have F_held_rv_54 := F_held_rv_A1L.other W54 (Or.inl u54_rv)
        have F_blocks_rv_54 := F_blocks_rv_A1L.other W54 (Or.inl u54_rv)
        have F_sorted_rv_54 := F_sorted_rv_A1L.other W54 (Or.inl u54_rv)
        have E_il_54 := E_il_A1L.wr W54
        have u54_il := (own_ne_arf E_il_A1L (oW hw 38 rfl) A_ea_A1L)
        have F_indices_il_54 := F_indices_il_A1L.other W54 (Or.inl u54_il)
        have F_size_il_54 := F_size_il_A1L.other W54 (Or.inl u54_il)
        have A_ix_54 := A_ix_A1L.other W54 ne_ix_ea
        have A_wd_54 := A_wd_A1L.other W54 (own_ne_ty A_wd_A1L A_ea_A1L (by decide))
        have A_hd_54 := A_hd_A1L.other W54 (own_ne_ty A_hd_A1L A_ea_A1L (by decide))
        have A_fa_54 := A_fa_A1L.other W54 ne_fa_ea
        have E_xa51_54 := E_xa51_A1L.wr W54
        have u54_xa51 := (Ne.symm (own_nx nb_ea_1 (i := 0) (by rw [hD51]; rfl)))
        have F_size_xa51_54 := F_size_xa51_A1L.other W54 (Or.inl u54_xa51)
        have F_senders_xa51_54 := F_senders_xa51_A1L.other W54 (Or.inl u54_xa51)
        have F_receivers_xa51_54 := F_receivers_xa51_A1L.other W54 (Or.inl u54_xa51)
        have F_messages_xa51_54 := F_messages_xa51_A1L.other W54 (Or.inl u54_xa51)
        have A_xb51_54 := A_xb51_A1L.other W54 (Ne.symm (own_nx nb_ea_1 (i := 1) (by rw [hD51]; rfl)))
        have A_xc51_54 := A_xc51_A1L.other W54 (Ne.symm (own_nx nb_ea_1 (i := 2) (by rw [hD51]; rfl)))
        have A_xd51_54 := A_xd51_A1L.other W54 (Ne.symm (own_nx nb_ea_1 (i := 3) (by rw [hD51]; rfl)))
        have N54 := Fr.snoc X54 NA1L ge_ea
        have Z54 : n0 ≤ h54.size := Nat.le_trans ZA1L (Keep.of_wr W54).1
        refine own_go (fun tg k => st54 tg k) ?_
        refine own_go (fun _ k => XS.aloadN X54.here hx rfl (hb hby d9_274) rfl rfl k) ?_
        obtain ⟨T55, X55, e55, st55⟩ := getF X54 hx hZ hown (host := "") (Or.inl (oW hw 57 rfl)) Via.refl e54 F_recipients_r0_54 (g := (mkF m 275 #[oR r0, oI p1, .val (.long (own_tot (own_tot (0 : Int64) La) Lb)), oS, oR ob, oI 2, oI 1, oR xa51, oI i, .val (.int (gg51 i.toNatClampNeg)), oU] [(.ref r0)])) rfl rfl (hb hby d9_275)
        refine own_go (fun tg k => st55 tg k) ?_
        refine own_go (fun _ k => XS.iload X55.here hx rfl (hb hby d9_278) rfl k) ?_
        show oF (T55.setTop (mkF m 280 #[oR r0, oI p1, .val (.long (own_tot (own_tot (0 : Int64) La) Lb)), oS, oR ob, oI 2, oI 1, oR xa51, oI i, .val (.int (gg51 i.toNatClampNeg)), oU] [(.int (gg51 i.toNatClampNeg)), (.ref rv)]))
        rcases (own_bc hI) with hv56 | hv56
        · rw [hv56] at F_size_il_54
          rw [hv56] at A_hd_54
          try rw [hv56]
          show oF (T55.setTop (mkF m 280 #[oR r0, oI p1, .val (.long (own_tot (own_tot (0 : Int64) La) Lb)), oS, oR ob, oI 2, oI 1, oR xa51, oI i, .val (.int (gg51 i.toNatClampNeg)), oU] [(.int (gg51 i.toNatClampNeg)), (.ref rv)]))
          obtain ⟨cq57, kq57, q57a, q57b, q57c⟩ := isOf hZ e55 E_rv_54
          obtain ⟨_, _, ⟨T57, L57, k57, n57⟩, -, X57, ⟨Lc57, hQ57, l57, y57, z57⟩, st57⟩ := X55.virtualBack hx (y := oM19) (z := oM19) hown (mvT hZ (oW hw 126 rfl)) (mvT hZ (oW hw 127 rfl)) (notFace_of_selects (args := #[]) (mvT hZ (oW hw 129 rfl))) (mvT hZ (oW hw 129 rfl)) (mvT hZ (oW hw 128 rfl)) (by decide) (backOf (W := 0) (rm14z l Z a0 hw [] rv (gg51 i.toNatClampNeg) wd hd il ix fL wL h54 n0 Z54 E_rv_54 F_words_rv_54 F_held_rv_54 F_blocks_rv_54 F_sorted_rv_54 E_il_54 F_indices_il_54 F_size_il_54 A_ix_54 A_wd_54 A_hd_54 (own_n3i hn (own_mem1 hm (own_gi_mem hl51 hg51 hI hc52))) ge_rv ge_wd ge_hd ge_il ge_ix) hZ (oW hw 130 rfl) (oW hw 28 rfl) (by decide) (by decide)) q57a q57c (g := (mkF m 280 #[oR r0, oI p1, .val (.long (own_tot (own_tot (0 : Int64) La) Lb)), oS, oR ob, oI 2, oI 1, oR xa51, oI i, .val (.int (gg51 i.toNatClampNeg)), oU] [(.int (gg51 i.toNatClampNeg)), (.ref rv)])) rfl (by rw [hml]; rfl) (Steps.refl _) (argsL := [(.int (gg51 i.toNatClampNeg))]) (rest := []) (lenOf own_pd308 rfl) rfl (by show 2 * 0 + _ ≤ _; exact Nat.le_of_eq rfl) (hb hby d9_280) (fun _ _ => ⟨rfl, e55, (by decide : 2 + 0 ≤ _), (by decide : 8 + 0 ≤ _)⟩)
          dsimp only [Pt.U, Pt.locs, Pt.cells, Pt.slots] at X57 l57 y57 z57 st57 hQ57
          replace y57 : 2 = k57 := y57.symm
          replace z57 : 8 = n57 := z57.symm
          subst y57 z57
          obtain ⟨rfl, N57q, Kq57, E_rv_57, F_words_rv_57, F_held_rv_57, F_blocks_rv_57, F_sorted_rv_57, E_il_57, F_indices_il_57, F_size_il_57, A_ix_57, A_wd_57, A_hd_57⟩ := hQ57
          have N57 : Fr n0 L57 := by rw [l57]; exact Fr.app N54 N57q
          have E_r0_57 := E_r0_54.keep Kq57
          have u57_r0 := (ninS (ne_exa E_r0_54 E_rv_54 (by decide)) (ninS (own_ne_arf E_r0_54 (oW hw 2 rfl) A_wd_54) (ninS (own_ne_arf E_r0_54 (oW hw 2 rfl) A_hd_54) (ninS (ne_exa E_r0_54 E_il_54 (by decide)) (ninS (own_ne_arf E_r0_54 (oW hw 2 rfl) A_ix_54) nin0)))))
          have F_receivers_r0_57 := F_receivers_r0_54.keep Kq57 u57_r0
          have F_outboxes_r0_57 := F_outboxes_r0_54.keep Kq57 u57_r0
          have F_recipients_r0_57 := F_recipients_r0_54.keep Kq57 u57_r0
          have F_delivered_r0_57 := F_delivered_r0_54.keep Kq57 u57_r0
          have F_senders_r0_57 := F_senders_r0_54.keep Kq57 u57_r0
          have F_messages_r0_57 := F_messages_r0_54.keep Kq57 u57_r0
          have F_first_r0_57 := F_first_r0_54.keep Kq57 u57_r0
          have F_end_r0_57 := F_end_r0_54.keep Kq57 u57_r0
          have O_ob_57 := O_ob_54.keep Kq57 (ninS (Ne.symm (own_ne_oa E_rv_54 (oW hw 27 rfl) O_ob_54)) (ninS (Ne.symm (own_ne_oarf A_wd_54 O_ob_54 (by decide))) (ninS (Ne.symm (own_ne_oarf A_hd_54 O_ob_54 (by decide))) (ninS (Ne.symm (own_ne_oa E_il_54 (oW hw 38 rfl) O_ob_54)) (ninS (Ne.symm (own_ne_oarf A_ix_54 O_ob_54 (by decide))) nin0)))))
          have B_0_57 := B_0_54.keep Kq57 (allS nb_rv_0 (allS nb_wd_0 (allS nb_hd_0 (allS nb_il_0 (allS nb_ix_0 all0)))))
          have B_1_57 := B_1_54.keep Kq57 (allS nb_rv_1 (allS nb_wd_1 (allS nb_hd_1 (allS nb_il_1 (allS nb_ix_1 all0)))))
          have A_fa_57 := A_fa_54.keep Kq57 (ninS (Ne.symm (own_ne_arf E_rv_54 (oW hw 27 rfl) A_fa_54)) (ninS (own_ne_ty A_fa_54 A_wd_54 (by decide)) (ninS (own_ne_ty A_fa_54 A_hd_54 (by decide)) (ninS (Ne.symm (own_ne_arf E_il_54 (oW hw 38 rfl) A_fa_54)) (ninS (Ne.symm ne_ix_fa) nin0)))))
          have A_ea_57 := A_ea_54.keep Kq57 (ninS (Ne.symm (own_ne_arf E_rv_54 (oW hw 27 rfl) A_ea_54)) (ninS (own_ne_ty A_ea_54 A_wd_54 (by decide)) (ninS (own_ne_ty A_ea_54 A_hd_54 (by decide)) (ninS (Ne.symm (own_ne_arf E_il_54 (oW hw 38 rfl) A_ea_54)) (ninS (Ne.symm ne_ix_ea) nin0)))))
          have E_xa51_57 := E_xa51_54.keep Kq57
          have u57_xa51 := (ninS (Ne.symm (own_nx nb_rv_1 (i := 0) (by rw [hD51]; rfl))) (ninS (Ne.symm (own_nx nb_wd_1 (i := 0) (by rw [hD51]; rfl))) (ninS (Ne.symm (own_nx nb_hd_1 (i := 0) (by rw [hD51]; rfl))) (ninS (Ne.symm (own_nx nb_il_1 (i := 0) (by rw [hD51]; rfl))) (ninS (Ne.symm (own_nx nb_ix_1 (i := 0) (by rw [hD51]; rfl))) nin0)))))
          have F_size_xa51_57 := F_size_xa51_54.keep Kq57 u57_xa51
          have F_senders_xa51_57 := F_senders_xa51_54.keep Kq57 u57_xa51
          have F_receivers_xa51_57 := F_receivers_xa51_54.keep Kq57 u57_xa51
          have F_messages_xa51_57 := F_messages_xa51_54.keep Kq57 u57_xa51
          have A_xb51_57 := A_xb51_54.keep Kq57 (ninS (Ne.symm (own_nx nb_rv_1 (i := 1) (by rw [hD51]; rfl))) (ninS (Ne.symm (own_nx nb_wd_1 (i := 1) (by rw [hD51]; rfl))) (ninS (Ne.symm (own_nx nb_hd_1 (i := 1) (by rw [hD51]; rfl))) (ninS (Ne.symm (own_nx nb_il_1 (i := 1) (by rw [hD51]; rfl))) (ninS (Ne.symm (own_nx nb_ix_1 (i := 1) (by rw [hD51]; rfl))) nin0)))))
          have A_xc51_57 := A_xc51_54.keep Kq57 (ninS (Ne.symm (own_nx nb_rv_1 (i := 2) (by rw [hD51]; rfl))) (ninS (Ne.symm (own_nx nb_wd_1 (i := 2) (by rw [hD51]; rfl))) (ninS (Ne.symm (own_nx nb_hd_1 (i := 2) (by rw [hD51]; rfl))) (ninS (Ne.symm (own_nx nb_il_1 (i := 2) (by rw [hD51]; rfl))) (ninS (Ne.symm (own_nx nb_ix_1 (i := 2) (by rw [hD51]; rfl))) nin0)))))
          have A_xd51_57 := A_xd51_54.keep Kq57 (ninS (Ne.symm (own_nx nb_rv_1 (i := 3) (by rw [hD51]; rfl))) (ninS (Ne.symm (own_nx nb_wd_1 (i := 3) (by rw [hD51]; rfl))) (ninS (Ne.symm (own_nx nb_hd_1 (i := 3) (by rw [hD51]; rfl))) (ninS (Ne.symm (own_nx nb_il_1 (i := 3) (by rw [hD51]; rfl))) (ninS (Ne.symm (own_nx nb_ix_1 (i := 3) (by rw [hD51]; rfl))) nin0)))))
          have Z57 : n0 ≤ T57.heap.size := Nat.le_trans Z54 Kq57.1
          refine own_go (fun tg k => st57.trans k) ?_
          show oF (T57.setTop (mkF m 283 #[oR r0, oI p1, .val (.long (own_tot (own_tot (0 : Int64) La) Lb)), oS, oR ob, oI 2, oI 1, oR xa51, oI i, .val (.int (gg51 i.toNatClampNeg)), oU] []))
          refine own_go (fun _ k => XS.iinc X57.here hx rfl (hb hby d9_283) rfl (l' := #[oR r0, oI p1, .val (.long (own_tot (own_tot (0 : Int64) La) Lb)), oS, oR ob, oI 2, oI 1, oR xa51, .val (.int (i + (1 : Int32))), .val (.int (gg51 i.toNatClampNeg)), oU]) rfl (XS.goto X57.here hx rfl (pc0 := 286) (pc' := 243) rfl (hb hby d9_286) (by decide) (by decide) k)) ?_
          show oF (T57.setTop (mkF m 243 #[oR r0, oI p1, .val (.long (own_tot (own_tot (0 : Int64) La) Lb)), oS, oR ob, oI 2, oI 1, oR xa51, .val (.int (i + (1 : Int32))), .val (.int (gg51 i.toNatClampNeg)), oU] []))
          exact ihA1 _ (own_I2m hl51 hI hc52 hkA1) ((i + (1 : Int32))) ((own_set eL (gg51 i.toNatClampNeg) ((eL (gg51 i.toNatClampNeg).toNatClampNeg) + (1 : Int32)))) ((wL ||| (own_lshl (1 : Int64) (gg51 i.toNatClampNeg)))) ((1 : Int32)) ((own_set fL (0 : Int32) (0 : Int32))) T57 _ T57.heap (.val (.int (gg51 i.toNatClampNeg))) rfl (own_I2s0 hl51 hg51 hI hc52 hv56) (own_mono X57 (by decide) (by decide)) N57 rfl (One.val rfl) Z57 E_r0_57 F_receivers_r0_57 F_outboxes_r0_57 F_recipients_r0_57 F_delivered_r0_57 F_senders_r0_57 F_messages_r0_57 F_first_r0_57 F_end_r0_57 O_ob_57 B_0_57 B_1_57 E_rv_57 F_words_rv_57 F_held_rv_57 F_blocks_rv_57 F_sorted_rv_57 E_il_57 F_indices_il_57 F_size_il_57 A_ix_57 A_wd_57 A_hd_57 A_fa_57 A_ea_57 E_xa51_57 F_size_xa51_57 F_senders_xa51_57 F_receivers_xa51_57 F_messages_xa51_57 A_xb51_57 A_xc51_57 A_xd51_57
        · rw [hv56] at F_size_il_54
          rw [hv56] at A_hd_54
          try rw [hv56]
          show oF (T55.setTop (mkF m 280 #[oR r0, oI p1, .val (.long (own_tot (own_tot (0 : Int64) La) Lb)), oS, oR ob, oI 2, oI 1, oR xa51, oI i, .val (.int (gg51 i.toNatClampNeg)), oU] [(.int (gg51 i.toNatClampNeg)), (.ref rv)]))
          obtain ⟨cq58, kq58, q58a, q58b, q58c⟩ := isOf hZ e55 E_rv_54
          obtain ⟨_, _, ⟨T58, L58, k58, n58⟩, -, X58, ⟨Lc58, hQ58, l58, y58, z58⟩, st58⟩ := X55.virtualBack hx (y := oM19) (z := oM19) hown (mvT hZ (oW hw 126 rfl)) (mvT hZ (oW hw 127 rfl)) (notFace_of_selects (args := #[]) (mvT hZ (oW hw 129 rfl))) (mvT hZ (oW hw 129 rfl)) (mvT hZ (oW hw 128 rfl)) (by decide) (backOf (W := 0) (rm14o l Z a0 hw [] rv (gg51 i.toNatClampNeg) wd hd il ix fL wL h54 n0 Z54 E_rv_54 F_words_rv_54 F_held_rv_54 F_blocks_rv_54 F_sorted_rv_54 E_il_54 F_indices_il_54 F_size_il_54 A_ix_54 A_wd_54 A_hd_54 (own_n3i hn (own_mem1 hm (own_gi_mem hl51 hg51 hI hc52))) ge_rv ge_wd ge_hd ge_il ge_ix) hZ (oW hw 130 rfl) (oW hw 28 rfl) (by decide) (by decide)) q58a q58c (g := (mkF m 280 #[oR r0, oI p1, .val (.long (own_tot (own_tot (0 : Int64) La) Lb)), oS, oR ob, oI 2, oI 1, oR xa51, oI i, .val (.int (gg51 i.toNatClampNeg)), oU] [(.int (gg51 i.toNatClampNeg)), (.ref rv)])) rfl (by rw [hml]; rfl) (Steps.refl _) (argsL := [(.int (gg51 i.toNatClampNeg))]) (rest := []) (lenOf own_pd308 rfl) rfl (by show 2 * 0 + _ ≤ _; exact Nat.le_of_eq rfl) (hb hby d9_280) (fun _ _ => ⟨rfl, e55, (by decide : 2 + 0 ≤ _), (by decide : 8 + 0 ≤ _)⟩)
          dsimp only [Pt.U, Pt.locs, Pt.cells, Pt.slots] at X58 l58 y58 z58 st58 hQ58
          replace y58 : 2 = k58 := y58.symm
          replace z58 : 8 = n58 := z58.symm
          subst y58 z58
          obtain ⟨rfl, N58q, Kq58, E_rv_58, F_words_rv_58, F_held_rv_58, F_blocks_rv_58, F_sorted_rv_58, E_il_58, F_indices_il_58, F_size_il_58, A_ix_58, A_wd_58, A_hd_58⟩ := hQ58
          have N58 : Fr n0 L58 := by rw [l58]; exact Fr.app N54 N58q
          have E_r0_58 := E_r0_54.keep Kq58
          have u58_r0 := (ninS (ne_exa E_r0_54 E_rv_54 (by decide)) (ninS (own_ne_arf E_r0_54 (oW hw 2 rfl) A_wd_54) (ninS (own_ne_arf E_r0_54 (oW hw 2 rfl) A_hd_54) (ninS (ne_exa E_r0_54 E_il_54 (by decide)) (ninS (own_ne_arf E_r0_54 (oW hw 2 rfl) A_ix_54) nin0)))))
          have F_receivers_r0_58 := F_receivers_r0_54.keep Kq58 u58_r0
          have F_outboxes_r0_58 := F_outboxes_r0_54.keep Kq58 u58_r0
          have F_recipients_r0_58 := F_recipients_r0_54.keep Kq58 u58_r0
          have F_delivered_r0_58 := F_delivered_r0_54.keep Kq58 u58_r0
          have F_senders_r0_58 := F_senders_r0_54.keep Kq58 u58_r0
          have F_messages_r0_58 := F_messages_r0_54.keep Kq58 u58_r0
          have F_first_r0_58 := F_first_r0_54.keep Kq58 u58_r0
          have F_end_r0_58 := F_end_r0_54.keep Kq58 u58_r0
          have O_ob_58 := O_ob_54.keep Kq58 (ninS (Ne.symm (own_ne_oa E_rv_54 (oW hw 27 rfl) O_ob_54)) (ninS (Ne.symm (own_ne_oarf A_wd_54 O_ob_54 (by decide))) (ninS (Ne.symm (own_ne_oarf A_hd_54 O_ob_54 (by decide))) (ninS (Ne.symm (own_ne_oa E_il_54 (oW hw 38 rfl) O_ob_54)) (ninS (Ne.symm (own_ne_oarf A_ix_54 O_ob_54 (by decide))) nin0)))))
          have B_0_58 := B_0_54.keep Kq58 (allS nb_rv_0 (allS nb_wd_0 (allS nb_hd_0 (allS nb_il_0 (allS nb_ix_0 all0)))))
          have B_1_58 := B_1_54.keep Kq58 (allS nb_rv_1 (allS nb_wd_1 (allS nb_hd_1 (allS nb_il_1 (allS nb_ix_1 all0)))))
          have A_fa_58 := A_fa_54.keep Kq58 (ninS (Ne.symm (own_ne_arf E_rv_54 (oW hw 27 rfl) A_fa_54)) (ninS (own_ne_ty A_fa_54 A_wd_54 (by decide)) (ninS (own_ne_ty A_fa_54 A_hd_54 (by decide)) (ninS (Ne.symm (own_ne_arf E_il_54 (oW hw 38 rfl) A_fa_54)) (ninS (Ne.symm ne_ix_fa) nin0)))))
          have A_ea_58 := A_ea_54.keep Kq58 (ninS (Ne.symm (own_ne_arf E_rv_54 (oW hw 27 rfl) A_ea_54)) (ninS (own_ne_ty A_ea_54 A_wd_54 (by decide)) (ninS (own_ne_ty A_ea_54 A_hd_54 (by decide)) (ninS (Ne.symm (own_ne_arf E_il_54 (oW hw 38 rfl) A_ea_54)) (ninS (Ne.symm ne_ix_ea) nin0)))))
          have E_xa51_58 := E_xa51_54.keep Kq58
          have u58_xa51 := (ninS (Ne.symm (own_nx nb_rv_1 (i := 0) (by rw [hD51]; rfl))) (ninS (Ne.symm (own_nx nb_wd_1 (i := 0) (by rw [hD51]; rfl))) (ninS (Ne.symm (own_nx nb_hd_1 (i := 0) (by rw [hD51]; rfl))) (ninS (Ne.symm (own_nx nb_il_1 (i := 0) (by rw [hD51]; rfl))) (ninS (Ne.symm (own_nx nb_ix_1 (i := 0) (by rw [hD51]; rfl))) nin0)))))
          have F_size_xa51_58 := F_size_xa51_54.keep Kq58 u58_xa51
          have F_senders_xa51_58 := F_senders_xa51_54.keep Kq58 u58_xa51
          have F_receivers_xa51_58 := F_receivers_xa51_54.keep Kq58 u58_xa51
          have F_messages_xa51_58 := F_messages_xa51_54.keep Kq58 u58_xa51
          have A_xb51_58 := A_xb51_54.keep Kq58 (ninS (Ne.symm (own_nx nb_rv_1 (i := 1) (by rw [hD51]; rfl))) (ninS (Ne.symm (own_nx nb_wd_1 (i := 1) (by rw [hD51]; rfl))) (ninS (Ne.symm (own_nx nb_hd_1 (i := 1) (by rw [hD51]; rfl))) (ninS (Ne.symm (own_nx nb_il_1 (i := 1) (by rw [hD51]; rfl))) (ninS (Ne.symm (own_nx nb_ix_1 (i := 1) (by rw [hD51]; rfl))) nin0)))))
          have A_xc51_58 := A_xc51_54.keep Kq58 (ninS (Ne.symm (own_nx nb_rv_1 (i := 2) (by rw [hD51]; rfl))) (ninS (Ne.symm (own_nx nb_wd_1 (i := 2) (by rw [hD51]; rfl))) (ninS (Ne.symm (own_nx nb_hd_1 (i := 2) (by rw [hD51]; rfl))) (ninS (Ne.symm (own_nx nb_il_1 (i := 2) (by rw [hD51]; rfl))) (ninS (Ne.symm (own_nx nb_ix_1 (i := 2) (by rw [hD51]; rfl))) nin0)))))
          have A_xd51_58 := A_xd51_54.keep Kq58 (ninS (Ne.symm (own_nx nb_rv_1 (i := 3) (by rw [hD51]; rfl))) (ninS (Ne.symm (own_nx nb_wd_1 (i := 3) (by rw [hD51]; rfl))) (ninS (Ne.symm (own_nx nb_hd_1 (i := 3) (by rw [hD51]; rfl))) (ninS (Ne.symm (own_nx nb_il_1 (i := 3) (by rw [hD51]; rfl))) (ninS (Ne.symm (own_nx nb_ix_1 (i := 3) (by rw [hD51]; rfl))) nin0)))))
          have Z58 : n0 ≤ T58.heap.size := Nat.le_trans Z54 Kq58.1
          refine own_go (fun tg k => st58.trans k) ?_
          show oF (T58.setTop (mkF m 283 #[oR r0, oI p1, .val (.long (own_tot (own_tot (0 : Int64) La) Lb)), oS, oR ob, oI 2, oI 1, oR xa51, oI i, .val (.int (gg51 i.toNatClampNeg)), oU] []))
          refine own_go (fun _ k => XS.iinc X58.here hx rfl (hb hby d9_283) rfl (l' := #[oR r0, oI p1, .val (.long (own_tot (own_tot (0 : Int64) La) Lb)), oS, oR ob, oI 2, oI 1, oR xa51, .val (.int (i + (1 : Int32))), .val (.int (gg51 i.toNatClampNeg)), oU]) rfl (XS.goto X58.here hx rfl (pc0 := 286) (pc' := 243) rfl (hb hby d9_286) (by decide) (by decide) k)) ?_
          show oF (T58.setTop (mkF m 243 #[oR r0, oI p1, .val (.long (own_tot (own_tot (0 : Int64) La) Lb)), oS, oR ob, oI 2, oI 1, oR xa51, .val (.int (i + (1 : Int32))), .val (.int (gg51 i.toNatClampNeg)), oU] []))
          exact ihA1 _ (own_I2m hl51 hI hc52 hkA1) ((i + (1 : Int32))) ((own_set eL (gg51 i.toNatClampNeg) ((eL (gg51 i.toNatClampNeg).toNatClampNeg) + (1 : Int32)))) ((wL ||| (own_lshl (1 : Int64) (gg51 i.toNatClampNeg)))) ((1 : Int32)) (fL) T58 _ T58.heap (.val (.int (gg51 i.toNatClampNeg))) rfl (own_I2s1 hl51 hg51 hI hc52 hv56) (own_mono X58 (by decide) (by decide)) N58 rfl (One.val rfl) Z58 E_r0_58 F_receivers_r0_58 F_outboxes_r0_58 F_recipients_r0_58 F_delivered_r0_58 F_senders_r0_58 F_messages_r0_58 F_first_r0_58 F_end_r0_58 O_ob_58 B_0_58 B_1_58 E_rv_58 F_words_rv_58 F_held_rv_58 F_blocks_rv_58 F_sorted_rv_58 E_il_58 F_indices_il_58 F_size_il_58 A_ix_58 A_wd_58 A_hd_58 A_fa_58 A_ea_58 E_xa51_58 F_size_xa51_58 F_senders_xa51_58 F_receivers_xa51_58 F_messages_xa51_58 A_xb51_58 A_xc51_58 A_xd51_58
      · refine own_go (fun _ k => XS.icmpYes XA1L.here hx rfl (pc0 := 250) (pc' := 289) rfl (hb hby d9_250) rfl (flt hc52).2.1 (by decide) (by decide) k) ?_
        show oF (TA1L.setTop (mkF m 289 #[oR r0, oI p1, .val (.long (own_tot (own_tot (0 : Int64) La) Lb)), oS, oR ob, oI 2, oI 1, oR xa51, oI i, j9A1, oU] []))
        exact hk3  TA1L _ hA1L (oR xa51) (oI i) (j9A1) (own_mono XA1L (by decide) (by decide)) NA1L eA1L (One.val rfl) (One.val rfl) hj9A1 ZA1L E_r0_A1L F_receivers_r0_A1L F_outboxes_r0_A1L F_recipients_r0_A1L F_delivered_r0_A1L F_senders_r0_A1L F_messages_r0_A1L F_first_r0_A1L F_end_r0_A1L O_ob_A1L B_0_A1L B_1_A1L E_rv_A1L F_words_rv_A1L F_held_rv_A1L F_blocks_rv_A1L F_sorted_rv_A1L E_il_A1L F_indices_il_A1L (by rw [← (own_I2x hl51 hI hc52).2.2.1]; exact F_size_il_A1L) (by rw [← (own_I2x hl51 hI hc52).2.2.2]; exact A_ix_A1L) (by rw [← (own_I2x hl51 hI hc52).2.1]; exact A_wd_A1L) (by rw [← (own_I2x hl51 hI hc52).2.2.1]; exact A_hd_A1L) A_fa_A1L (by rw [← (own_I2x hl51 hI hc52).1]; exact A_ea_A1L)
    exact loopA1 _ ((0 : Int32)) ((own_cnt (fun _ => (0 : Int32)) La)) ((own_or (0 : Int64) La)) ((own_b (0 : Int32) La)) ((own_gi (0 : Int32) fi La)) T2L _ h2L (j92) rfl (own_I20 (own_bv _)) (own_mono X2L (by decide) (by decide)) N2L e2L hj92 Z2L E_r0_2L F_receivers_r0_2L F_outboxes_r0_2L F_recipients_r0_2L F_delivered_r0_2L F_senders_r0_2L F_messages_r0_2L F_first_r0_2L F_end_r0_2L O_ob_2L B_0_2L B_1_2L E_rv_2L F_words_rv_2L F_held_rv_2L F_blocks_rv_2L F_sorted_rv_2L E_il_2L F_indices_il_2L F_size_il_2L A_ix_2L A_wd_2L A_hd_2L A_fa_2L A_ea_2L E_xa51_o F_size_xa51_o F_senders_xa51_o F_receivers_xa51_o F_messages_xa51_o A_xb51_o A_xc51_o A_xd51_o
 obtain ⟨hl59, ⟨hv59, hD59, hL59⟩ | ⟨xa59, xb59, xc59, xd59, q159, gg59, q359, hv59, hD59, hB59, hg59⟩⟩ := id B_0_0
 · refine own_vr hv59 ?_
   show oF (T1.setTop (mkF m 233 #[oR r0, oI p1, .val (.long (own_tot (own_tot (0 : Int64) La) Lb)), oS, oR ob, oI 2, oI 0, j7, oU, oU, oU] [.null]))
   refine own_go (fun _ k => XS.astoreS X1.here hx rfl (hb hby d9_233) rfl rfl rfl rfl hj7 (XS.aload X1.here hx rfl (hb hby d9_235) rfl rfl (XS.ifnullYes X1.here hx rfl (pc0 := 237) (pc' := 289) rfl (hb hby d9_237) rfl (by decide) (by decide) k))) ?_
   show oF (T1.setTop (mkF m 289 #[oR r0, oI p1, .val (.long (own_tot (own_tot (0 : Int64) La) Lb)), oS, oR ob, oI 2, oI 0, .val .null, oU, oU, oU] []))
   exact hk2  T1 _ ht (.val .null) (.unset) (.unset) (own_mono X1 (by decide) (by decide)) Nt e1 (One.val rfl) One.u One.u Zt E_r0_0 F_receivers_r0_0 F_outboxes_r0_0 F_recipients_r0_0 F_delivered_r0_0 F_senders_r0_0 F_messages_r0_0 F_first_r0_0 F_end_r0_0 O_ob_0 B_0_0 B_1_0 E_rv_0 F_words_rv_0 F_held_rv_0 F_blocks_rv_0 F_sorted_rv_0 E_il_0 F_indices_il_0 (by rw [hL59]; exact F_size_il_0) (by rw [hL59]; exact A_ix_0) (by rw [hL59]; exact A_wd_0) (by rw [hL59]; exact A_hd_0) A_fa_0 (by rw [hL59]; exact A_ea_0)
 · refine own_vr hv59 ?_
   show oF (T1.setTop (mkF m 233 #[oR r0, oI p1, .val (.long (own_tot (own_tot (0 : Int64) La) Lb)), oS, oR ob, oI 2, oI 0, j7, oU, oU, oU] [(.ref xa59)]))
   obtain ⟨⟨ge_xa59, ge_xb59, ge_xc59, ge_xd59, ne_xb59_xc59⟩, E_xa59_o, F_size_xa59_o, F_senders_xa59_o, F_receivers_xa59_o, F_messages_xa59_o, A_xb59_o, A_xc59_o, A_xd59_o⟩ := hB59
   refine own_go (fun _ k => XS.astoreS X1.here hx rfl (hb hby d9_233) rfl rfl rfl rfl hj7 (XS.aload X1.here hx rfl (hb hby d9_235) rfl rfl (XS.ifnullNo X1.here hx rfl (hb hby d9_237) rfl (XS.iconst X1.here hx rfl (hb hby d9_240) (XS.istore X1.here hx rfl (hb hby d9_241) rfl (l' := #[oR r0, oI p1, .val (.long (own_tot (own_tot (0 : Int64) La) Lb)), oS, oR ob, oI 2, oI 0, oR xa59, oI 0, oU, oU]) rfl k))))) ?_
   show oF (T1.setTop (mkF m 243 #[oR r0, oI p1, .val (.long (own_tot (own_tot (0 : Int64) La) Lb)), oS, oR ob, oI 2, oI 0, oR xa59, oI 0, oU, oU] []))
   have loopA0 : ∀ (kA0 : Nat) (i : Int32) (eL : Nat → Int32) (wL : Int64) (bL : Int32) (fL : Nat → Int32) (TA0L : State) (LA0L : List Loc) (hA0L : Heap) (j9A0 : Slot), kA0 = La.length - i.toNatClampNeg → own_I2 (fun _ => (0 : Int32)) (0 : Int64) (0 : Int32) fi La i eL wL bL fL → Stand p l e rm9t_room s m #[(.ref r0), (.int p1)] below meth c TA0L LA0L 2 8 → Fr n0 LA0L → TA0L.heap = hA0L → One j9A0 → n0 ≤ hA0L.size → Exa Z hA0L r0 oC0 → Fld Z hA0L r0 oC0 "receivers" "I" (.int n) → Fld Z hA0L r0 oC0 "outboxes" oC4 (.ref ob) → Fld Z hA0L r0 oC0 "recipients" oC6 (.ref rv) → Fld Z hA0L r0 oC0 "delivered" "I" (.int ((own_tot (own_tot (0 : Int64) La) Lb).toInt32)) → Fld Z hA0L r0 oC0 "senders" "[I" .null → Fld Z hA0L r0 oC0 "messages" "[J" .null → Fld Z hA0L r0 oC0 "first" "[I" (.ref fa) → Fld Z hA0L r0 oC0 "end" "[I" (.ref ea) → own_Oa Z hA0L ob oC2 v0 v1 → own_Box Z hA0L n0 v0 Da La → own_Box Z hA0L n0 v1 Db Lb → Exa Z hA0L rv oC1 → Fld Z hA0L rv oC1 "words" "[J" (.ref wd) → Fld Z hA0L rv oC1 "held" "[Z" (.ref hd) → Fld Z hA0L rv oC1 "blocks" oC5 (.ref il) → Fld Z hA0L rv oC1 "sorted" "Z" (.int 1) → Exa Z hA0L il oC3 → Fld Z hA0L il oC3 "indices" "[I" (.ref ix) → Fld Z hA0L il oC3 "size" "I" (.int bL) → own_Arf Z hA0L ix .int (16 : Int32) (fun i => .int (fL i)) → own_Arf Z hA0L wd .long (16 : Int32) (fun i => .long ((own_w0 wL) i)) → own_Arf Z hA0L hd .boolean (1 : Int32) (fun i => .int ((fun _ => bL) i)) → own_Arf Z hA0L fa .int n (fun i => .int ((fun _ => (0 : Int32)) i)) → own_Arf Z hA0L ea .int n (fun i => .int (eL i)) → Exa Z hA0L xa59 oC2 → Fld Z hA0L xa59 oC2 "size" "I" (.int (Int32.ofNat La.length)) → Fld Z hA0L xa59 oC2 "senders" "[I" (.ref xb59) → Fld Z hA0L xa59 oC2 "receivers" "[I" (.ref xc59) → Fld Z hA0L xa59 oC2 "messages" "[J" (.ref xd59) → own_Arf Z hA0L xb59 .int (16 : Int32) (fun i => .int (q159 i)) → own_Arf Z hA0L xc59 .int (16 : Int32) (fun i => .int (gg59 i)) → own_Arf Z hA0L xd59 .long (16 : Int32) (fun i => .long (q359 i)) → own_Fin p.tables e below s (Qrm9t Z r0 p1 n ob rv fa ea v0 v1 Da Db La Lb wd hd il ix fi h0 n0) rm9t_room.cells rm9t_room.slots (TA0L.setTop (mkF m 243 #[oR r0, oI p1, .val (.long (own_tot (own_tot (0 : Int64) La) Lb)), oS, oR ob, oI 2, oI 0, oR xa59, oI i, j9A0, oU] [])) := by
    intro kA0
    induction kA0 using Nat.strongRecOn with
    | _ kA0 ihA0 =>
     intro i eL wL bL fL TA0L LA0L hA0L j9A0 hkA0 hI XA0L NA0L eA0L hj9A0 ZA0L E_r0_A0L F_receivers_r0_A0L F_outboxes_r0_A0L F_recipients_r0_A0L F_delivered_r0_A0L F_senders_r0_A0L F_messages_r0_A0L F_first_r0_A0L F_end_r0_A0L O_ob_A0L B_0_A0L B_1_A0L E_rv_A0L F_words_rv_A0L F_held_rv_A0L F_blocks_rv_A0L F_sorted_rv_A0L E_il_A0L F_indices_il_A0L F_size_il_A0L A_ix_A0L A_wd_A0L A_hd_A0L A_fa_A0L A_ea_A0L E_xa59_A0L F_size_xa59_A0L F_senders_xa59_A0L F_receivers_xa59_A0L F_messages_xa59_A0L A_xb59_A0L A_xc59_A0L A_xd59_A0L
     show oF (TA0L.setTop (mkF m 243 #[oR r0, oI p1, .val (.long (own_tot (own_tot (0 : Int64) La) Lb)), oS, oR ob, oI 2, oI 0, oR xa59, oI i, j9A0, oU] []))
     refine own_go (fun _ k => XS.iload XA0L.here hx rfl (hb hby d9_243) rfl (XS.aload XA0L.here hx rfl (hb hby d9_245) rfl rfl k)) ?_
     refine own_go (fun tg k => own_getFR XA0L hx hZ hown (oW hw 113 rfl) eA0L F_size_xa59_A0L (g := (mkF m 247 #[oR r0, oI p1, .val (.long (own_tot (own_tot (0 : Int64) La) Lb)), oS, oR ob, oI 2, oI 0, oR xa59, oI i, j9A0, oU] [(.ref xa59), (.int i)])) rfl rfl (hb hby d9_247) tg k) ?_
     by_cases hc60 : i < (Int32.ofNat La.length)
     · refine own_go (fun _ k => XS.icmpNo XA0L.here hx rfl (hb hby d9_250) rfl (tlt hc60).2.1 (XS.aload XA0L.here hx rfl (hb hby d9_253) rfl rfl k)) ?_
       refine own_go (fun tg k => own_getFR XA0L hx hZ hown (oW hw 125 rfl) eA0L F_receivers_xa59_A0L (g := (mkF m 255 #[oR r0, oI p1, .val (.long (own_tot (own_tot (0 : Int64) La) Lb)), oS, oR ob, oI 2, oI 0, oR xa59, oI i, j9A0, oU] [(.ref xa59)])) rfl rfl (hb hby d9_255) tg k) ?_
       refine own_go (fun _ k => XS.iload XA0L.here hx rfl (hb hby d9_258) rfl k) ?_
       refine own_go (fun tg k => own_iaload XA0L hx hZ eA0L A_xc59_A0L (j := i) (own_ib hl59 hI hc60) (x := (gg59 i.toNatClampNeg)) rfl (g := (mkF m 260 #[oR r0, oI p1, .val (.long (own_tot (own_tot (0 : Int64) La) Lb)), oS, oR ob, oI 2, oI 0, oR xa59, oI i, j9A0, oU] [(.int i), (.ref xc59)])) rfl rfl (hb hby d9_260) tg k) ?_
       refine own_go (fun _ k => XS.istoreS XA0L.here hx rfl (hb hby d9_261) rfl rfl hj9A0 (XS.aloadN XA0L.here hx rfl (hb hby d9_263) rfl rfl k)) ?_
       obtain ⟨T61, X61, e61, st61⟩ := getF XA0L hx hZ hown (host := "") (Or.inl (oW hw 123 rfl)) Via.refl eA0L F_end_r0_A0L (g := (mkF m 264 #[oR r0, oI p1, .val (.long (own_tot (own_tot (0 : Int64) La) Lb)), oS, oR ob, oI 2, oI 0, oR xa59, oI i, .val (.int (gg59 i.toNatClampNeg)), oU] [(.ref r0)])) rfl rfl (hb hby d9_264)
       refine own_go (fun tg k => st61 tg k) ?_
       refine own_go (fun _ k => XS.iload X61.here hx rfl (hb hby d9_267) rfl k) ?_
       refine own_go (fun _ k => Jvm.Free.XT.dup2 X61.here hx rfl (hb hby d9_269) rfl rfl rfl k) ?_
       refine own_go (fun tg k => own_iaload X61 hx hZ e61 A_ea_A0L (j := (gg59 i.toNatClampNeg)) (own_mem0 hm (own_gi_mem hl59 hg59 hI hc60)) (x := (eL (gg59 i.toNatClampNeg).toNatClampNeg)) rfl (g := (mkF m 270 #[oR r0, oI p1, .val (.long (own_tot (own_tot (0 : Int64) La) Lb)), oS, oR ob, oI 2, oI 0, oR xa59, oI i, .val (.int (gg59 i.toNatClampNeg)), oU] [(.int (gg59 i.toNatClampNeg)), (.ref ea), (.int (gg59 i.toNatClampNeg)), (.ref ea)])) rfl rfl (hb hby d9_270) tg k) ?_
       refine own_go (fun _ k => XS.iconst X61.here hx rfl (hb hby d9_271) (XS.iadd X61.here hx rfl (hb hby d9_272) rfl k)) ?_
       obtain ⟨T62, h62, X62, e62, W62, A_ea_62, st62⟩ := own_stI X61 hx hZ e61 A_ea_A0L (j := (gg59 i.toNatClampNeg)) (own_mem0 hm (own_gi_mem hl59 hg59 hI hc60)) (g := (mkF m 273 #[oR r0, oI p1, .val (.long (own_tot (own_tot (0 : Int64) La) Lb)), oS, oR ob, oI 2, oI 0, oR xa59, oI i, .val (.int (gg59 i.toNatClampNeg)), oU] [(.int ((eL (gg59 i.toNatClampNeg).toNatClampNeg) + (1 : Int32))), (.int (gg59 i.toNatClampNeg)), (.ref ea)])) rfl rfl (hb hby d9_273)
       have E_r0_62 := E_r0_A0L.wr W62
       have u62_r0 := (own_ne_arf E_r0_A0L (oW hw 2 rfl) A_ea_A0L)
       have F_receivers_r0_62 := F_receivers_r0_A0L.other W62 (Or.inl u62_r0)
       have F_outboxes_r0_62 := F_outboxes_r0_A0L.other W62 (Or.inl u62_r0)
       have F_recipients_r0_62 := F_recipients_r0_A0L.other W62 (Or.inl u62_r0)
       have F_delivered_r0_62 := F_delivered_r0_A0L.other W62 (Or.inl u62_r0)
       have F_senders_r0_62 := F_senders_r0_A0L.other W62 (Or.inl u62_r0)
       have F_messages_r0_62 := F_messages_r0_A0L.other W62 (Or.inl u62_r0)
       have F_first_r0_62 := F_first_r0_A0L.other W62 (Or.inl u62_r0)
       have F_end_r0_62 := F_end_r0_A0L.other W62 (Or.inl u62_r0)
       have O_ob_62 := O_ob_A0L.other W62 (Ne.symm (own_ne_oarf A_ea_A0L O_ob_A0L (by decide)))
       have B_0_62 := B_0_A0L.other W62 nb_ea_0
       have B_1_62 := B_1_A0L.other W62 nb_ea_1
       have E_rv_62 := E_rv_A0L.wr W62
       have u62_rv := (own_ne_arf E_rv_A0L (oW hw 27 rfl) A_ea_A0L)
       have F_words_rv_62 := F_words_rv_A0L.other W62 (Or.inl u62_rv)
       have F_held_rv_62 := F_held_rv_A0L.other W62 (Or.inl u62_rv)
       have F_blocks_rv_62 := F_blocks_rv_A0L.other W62 (Or.inl u62_rv)
       have F_sorted_rv_62 := F_sorted_rv_A0L.other W62 (Or.inl u62_rv)
       have E_il_62 := E_il_A0L.wr W62
       have u62_il := (own_ne_arf E_il_A0L (oW hw 38 rfl) A_ea_A0L)
       have F_indices_il_62 := F_indices_il_A0L.other W62 (Or.inl u62_il)
       have F_size_il_62 := F_size_il_A0L.other W62 (Or.inl u62_il)
       have A_ix_62 := A_ix_A0L.other W62 ne_ix_ea
       have A_wd_62 := A_wd_A0L.other W62 (own_ne_ty A_wd_A0L A_ea_A0L (by decide))
       have A_hd_62 := A_hd_A0L.other W62 (own_ne_ty A_hd_A0L A_ea_A0L (by decide))
       have A_fa_62 := A_fa_A0L.other W62 ne_fa_ea
       have E_xa59_62 := E_xa59_A0L.wr W62
       have u62_xa59 := (Ne.symm (own_nx nb_ea_0 (i := 0) (by rw [hD59]; rfl)))
       have F_size_xa59_62 := F_size_xa59_A0L.other W62 (Or.inl u62_xa59)
       have F_senders_xa59_62 := F_senders_xa59_A0L.other W62 (Or.inl u62_xa59)
       have F_receivers_xa59_62 := F_receivers_xa59_A0L.other W62 (Or.inl u62_xa59)
       have F_messages_xa59_62 := F_messages_xa59_A0L.other W62 (Or.inl u62_xa59)
       have A_xb59_62 := A_xb59_A0L.other W62 (Ne.symm (own_nx nb_ea_0 (i := 1) (by rw [hD59]; rfl)))
       have A_xc59_62 := A_xc59_A0L.other W62 (Ne.symm (own_nx nb_ea_0 (i := 2) (by rw [hD59]; rfl)))
       have A_xd59_62 := A_xd59_A0L.other W62 (Ne.symm (own_nx nb_ea_0 (i := 3) (by rw [hD59]; rfl)))
       have N62 := Fr.snoc X62 NA0L ge_ea
       have Z62 : n0 ≤ h62.size := Nat.le_trans ZA0L (Keep.of_wr W62).1
       refine own_go (fun tg k => st62 tg k) ?_
       refine own_go (fun _ k => XS.aloadN X62.here hx rfl (hb hby d9_274) rfl rfl k) ?_
       obtain ⟨T63, X63, e63, st63⟩ := getF X62 hx hZ hown (host := "") (Or.inl (oW hw 57 rfl)) Via.refl e62 F_recipients_r0_62 (g := (mkF m 275 #[oR r0, oI p1, .val (.long (own_tot (own_tot (0 : Int64) La) Lb)), oS, oR ob, oI 2, oI 0, oR xa59, oI i, .val (.int (gg59 i.toNatClampNeg)), oU] [(.ref r0)])) rfl rfl (hb hby d9_275)
       refine own_go (fun tg k => st63 tg k) ?_
       refine own_go (fun _ k => XS.iload X63.here hx rfl (hb hby d9_278) rfl k) ?_
       show oF (T63.setTop (mkF m 280 #[oR r0, oI p1, .val (.long (own_tot (own_tot (0 : Int64) La) Lb)), oS, oR ob, oI 2, oI 0, oR xa59, oI i, .val (.int (gg59 i.toNatClampNeg)), oU] [(.int (gg59 i.toNatClampNeg)), (.ref rv)]))
       rcases (own_bc hI) with hv64 | hv64
       · rw [hv64] at F_size_il_62
         rw [hv64] at A_hd_62
         try rw [hv64]
         show oF (T63.setTop (mkF m 280 #[oR r0, oI p1, .val (.long (own_tot (own_tot (0 : Int64) La) Lb)), oS, oR ob, oI 2, oI 0, oR xa59, oI i, .val (.int (gg59 i.toNatClampNeg)), oU] [(.int (gg59 i.toNatClampNeg)), (.ref rv)]))
         obtain ⟨cq65, kq65, q65a, q65b, q65c⟩ := isOf hZ e63 E_rv_62
         obtain ⟨_, _, ⟨T65, L65, k65, n65⟩, -, X65, ⟨Lc65, hQ65, l65, y65, z65⟩, st65⟩ := X63.virtualBack hx (y := oM19) (z := oM19) hown (mvT hZ (oW hw 126 rfl)) (mvT hZ (oW hw 127 rfl)) (notFace_of_selects (args := #[]) (mvT hZ (oW hw 129 rfl))) (mvT hZ (oW hw 129 rfl)) (mvT hZ (oW hw 128 rfl)) (by decide) (backOf (W := 0) (rm14z l Z a0 hw [] rv (gg59 i.toNatClampNeg) wd hd il ix fL wL h62 n0 Z62 E_rv_62 F_words_rv_62 F_held_rv_62 F_blocks_rv_62 F_sorted_rv_62 E_il_62 F_indices_il_62 F_size_il_62 A_ix_62 A_wd_62 A_hd_62 (own_n3i hn (own_mem0 hm (own_gi_mem hl59 hg59 hI hc60))) ge_rv ge_wd ge_hd ge_il ge_ix) hZ (oW hw 130 rfl) (oW hw 28 rfl) (by decide) (by decide)) q65a q65c (g := (mkF m 280 #[oR r0, oI p1, .val (.long (own_tot (own_tot (0 : Int64) La) Lb)), oS, oR ob, oI 2, oI 0, oR xa59, oI i, .val (.int (gg59 i.toNatClampNeg)), oU] [(.int (gg59 i.toNatClampNeg)), (.ref rv)])) rfl (by rw [hml]; rfl) (Steps.refl _) (argsL := [(.int (gg59 i.toNatClampNeg))]) (rest := []) (lenOf own_pd308 rfl) rfl (by show 2 * 0 + _ ≤ _; exact Nat.le_of_eq rfl) (hb hby d9_280) (fun _ _ => ⟨rfl, e63, (by decide : 2 + 0 ≤ _), (by decide : 8 + 0 ≤ _)⟩)
         dsimp only [Pt.U, Pt.locs, Pt.cells, Pt.slots] at X65 l65 y65 z65 st65 hQ65
         replace y65 : 2 = k65 := y65.symm
         replace z65 : 8 = n65 := z65.symm
         subst y65 z65
         obtain ⟨rfl, N65q, Kq65, E_rv_65, F_words_rv_65, F_held_rv_65, F_blocks_rv_65, F_sorted_rv_65, E_il_65, F_indices_il_65, F_size_il_65, A_ix_65, A_wd_65, A_hd_65⟩ := hQ65
         have N65 : Fr n0 L65 := by rw [l65]; exact Fr.app N62 N65q
         have E_r0_65 := E_r0_62.keep Kq65
         have u65_r0 := (ninS (ne_exa E_r0_62 E_rv_62 (by decide)) (ninS (own_ne_arf E_r0_62 (oW hw 2 rfl) A_wd_62) (ninS (own_ne_arf E_r0_62 (oW hw 2 rfl) A_hd_62) (ninS (ne_exa E_r0_62 E_il_62 (by decide)) (ninS (own_ne_arf E_r0_62 (oW hw 2 rfl) A_ix_62) nin0)))))
         have F_receivers_r0_65 := F_receivers_r0_62.keep Kq65 u65_r0
         have F_outboxes_r0_65 := F_outboxes_r0_62.keep Kq65 u65_r0
         have F_recipients_r0_65 := F_recipients_r0_62.keep Kq65 u65_r0
         have F_delivered_r0_65 := F_delivered_r0_62.keep Kq65 u65_r0
         have F_senders_r0_65 := F_senders_r0_62.keep Kq65 u65_r0
         have F_messages_r0_65 := F_messages_r0_62.keep Kq65 u65_r0
         have F_first_r0_65 := F_first_r0_62.keep Kq65 u65_r0
         have F_end_r0_65 := F_end_r0_62.keep Kq65 u65_r0
         have O_ob_65 := O_ob_62.keep Kq65 (ninS (Ne.symm (own_ne_oa E_rv_62 (oW hw 27 rfl) O_ob_62)) (ninS (Ne.symm (own_ne_oarf A_wd_62 O_ob_62 (by decide))) (ninS (Ne.symm (own_ne_oarf A_hd_62 O_ob_62 (by decide))) (ninS (Ne.symm (own_ne_oa E_il_62 (oW hw 38 rfl) O_ob_62)) (ninS (Ne.symm (own_ne_oarf A_ix_62 O_ob_62 (by decide))) nin0)))))
         have B_0_65 := B_0_62.keep Kq65 (allS nb_rv_0 (allS nb_wd_0 (allS nb_hd_0 (allS nb_il_0 (allS nb_ix_0 all0)))))
         have B_1_65 := B_1_62.keep Kq65 (allS nb_rv_1 (allS nb_wd_1 (allS nb_hd_1 (allS nb_il_1 (allS nb_ix_1 all0)))))
         have A_fa_65 := A_fa_62.keep Kq65 (ninS (Ne.symm (own_ne_arf E_rv_62 (oW hw 27 rfl) A_fa_62)) (ninS (own_ne_ty A_fa_62 A_wd_62 (by decide)) (ninS (own_ne_ty A_fa_62 A_hd_62 (by decide)) (ninS (Ne.symm (own_ne_arf E_il_62 (oW hw 38 rfl) A_fa_62)) (ninS (Ne.symm ne_ix_fa) nin0)))))
         have A_ea_65 := A_ea_62.keep Kq65 (ninS (Ne.symm (own_ne_arf E_rv_62 (oW hw 27 rfl) A_ea_62)) (ninS (own_ne_ty A_ea_62 A_wd_62 (by decide)) (ninS (own_ne_ty A_ea_62 A_hd_62 (by decide)) (ninS (Ne.symm (own_ne_arf E_il_62 (oW hw 38 rfl) A_ea_62)) (ninS (Ne.symm ne_ix_ea) nin0)))))
         have E_xa59_65 := E_xa59_62.keep Kq65
         have u65_xa59 := (ninS (Ne.symm (own_nx nb_rv_0 (i := 0) (by rw [hD59]; rfl))) (ninS (Ne.symm (own_nx nb_wd_0 (i := 0) (by rw [hD59]; rfl))) (ninS (Ne.symm (own_nx nb_hd_0 (i := 0) (by rw [hD59]; rfl))) (ninS (Ne.symm (own_nx nb_il_0 (i := 0) (by rw [hD59]; rfl))) (ninS (Ne.symm (own_nx nb_ix_0 (i := 0) (by rw [hD59]; rfl))) nin0)))))
         have F_size_xa59_65 := F_size_xa59_62.keep Kq65 u65_xa59
         have F_senders_xa59_65 := F_senders_xa59_62.keep Kq65 u65_xa59
         have F_receivers_xa59_65 := F_receivers_xa59_62.keep Kq65 u65_xa59
         have F_messages_xa59_65 := F_messages_xa59_62.keep Kq65 u65_xa59
         have A_xb59_65 := A_xb59_62.keep Kq65 (ninS (Ne.symm (own_nx nb_rv_0 (i := 1) (by rw [hD59]; rfl))) (ninS (Ne.symm (own_nx nb_wd_0 (i := 1) (by rw [hD59]; rfl))) (ninS (Ne.symm (own_nx nb_hd_0 (i := 1) (by rw [hD59]; rfl))) (ninS (Ne.symm (own_nx nb_il_0 (i := 1) (by rw [hD59]; rfl))) (ninS (Ne.symm (own_nx nb_ix_0 (i := 1) (by rw [hD59]; rfl))) nin0)))))
         have A_xc59_65 := A_xc59_62.keep Kq65 (ninS (Ne.symm (own_nx nb_rv_0 (i := 2) (by rw [hD59]; rfl))) (ninS (Ne.symm (own_nx nb_wd_0 (i := 2) (by rw [hD59]; rfl))) (ninS (Ne.symm (own_nx nb_hd_0 (i := 2) (by rw [hD59]; rfl))) (ninS (Ne.symm (own_nx nb_il_0 (i := 2) (by rw [hD59]; rfl))) (ninS (Ne.symm (own_nx nb_ix_0 (i := 2) (by rw [hD59]; rfl))) nin0)))))
         have A_xd59_65 := A_xd59_62.keep Kq65 (ninS (Ne.symm (own_nx nb_rv_0 (i := 3) (by rw [hD59]; rfl))) (ninS (Ne.symm (own_nx nb_wd_0 (i := 3) (by rw [hD59]; rfl))) (ninS (Ne.symm (own_nx nb_hd_0 (i := 3) (by rw [hD59]; rfl))) (ninS (Ne.symm (own_nx nb_il_0 (i := 3) (by rw [hD59]; rfl))) (ninS (Ne.symm (own_nx nb_ix_0 (i := 3) (by rw [hD59]; rfl))) nin0)))))
         have Z65 : n0 ≤ T65.heap.size := Nat.le_trans Z62 Kq65.1
         refine own_go (fun tg k => st65.trans k) ?_
         show oF (T65.setTop (mkF m 283 #[oR r0, oI p1, .val (.long (own_tot (own_tot (0 : Int64) La) Lb)), oS, oR ob, oI 2, oI 0, oR xa59, oI i, .val (.int (gg59 i.toNatClampNeg)), oU] []))
         refine own_go (fun _ k => XS.iinc X65.here hx rfl (hb hby d9_283) rfl (l' := #[oR r0, oI p1, .val (.long (own_tot (own_tot (0 : Int64) La) Lb)), oS, oR ob, oI 2, oI 0, oR xa59, .val (.int (i + (1 : Int32))), .val (.int (gg59 i.toNatClampNeg)), oU]) rfl (XS.goto X65.here hx rfl (pc0 := 286) (pc' := 243) rfl (hb hby d9_286) (by decide) (by decide) k)) ?_
         show oF (T65.setTop (mkF m 243 #[oR r0, oI p1, .val (.long (own_tot (own_tot (0 : Int64) La) Lb)), oS, oR ob, oI 2, oI 0, oR xa59, .val (.int (i + (1 : Int32))), .val (.int (gg59 i.toNatClampNeg)), oU] []))
         exact ihA0 _ (own_I2m hl59 hI hc60 hkA0) ((i + (1 : Int32))) ((own_set eL (gg59 i.toNatClampNeg) ((eL (gg59 i.toNatClampNeg).toNatClampNeg) + (1 : Int32)))) ((wL ||| (own_lshl (1 : Int64) (gg59 i.toNatClampNeg)))) ((1 : Int32)) ((own_set fL (0 : Int32) (0 : Int32))) T65 _ T65.heap (.val (.int (gg59 i.toNatClampNeg))) rfl (own_I2s0 hl59 hg59 hI hc60 hv64) (own_mono X65 (by decide) (by decide)) N65 rfl (One.val rfl) Z65 E_r0_65 F_receivers_r0_65 F_outboxes_r0_65 F_recipients_r0_65 F_delivered_r0_65 F_senders_r0_65 F_messages_r0_65 F_first_r0_65 F_end_r0_65 O_ob_65 B_0_65 B_1_65 E_rv_65 F_words_rv_65 F_held_rv_65 F_blocks_rv_65 F_sorted_rv_65 E_il_65 F_indices_il_65 F_size_il_65 A_ix_65 A_wd_65 A_hd_65 A_fa_65 A_ea_65 E_xa59_65 F_size_xa59_65 F_senders_xa59_65 F_receivers_xa59_65 F_messages_xa59_65 A_xb59_65 A_xc59_65 A_xd59_65
       · rw [hv64] at F_size_il_62
         rw [hv64] at A_hd_62
         try rw [hv64]
         show oF (T63.setTop (mkF m 280 #[oR r0, oI p1, .val (.long (own_tot (own_tot (0 : Int64) La) Lb)), oS, oR ob, oI 2, oI 0, oR xa59, oI i, .val (.int (gg59 i.toNatClampNeg)), oU] [(.int (gg59 i.toNatClampNeg)), (.ref rv)]))
         obtain ⟨cq66, kq66, q66a, q66b, q66c⟩ := isOf hZ e63 E_rv_62
         obtain ⟨_, _, ⟨T66, L66, k66, n66⟩, -, X66, ⟨Lc66, hQ66, l66, y66, z66⟩, st66⟩ := X63.virtualBack hx (y := oM19) (z := oM19) hown (mvT hZ (oW hw 126 rfl)) (mvT hZ (oW hw 127 rfl)) (notFace_of_selects (args := #[]) (mvT hZ (oW hw 129 rfl))) (mvT hZ (oW hw 129 rfl)) (mvT hZ (oW hw 128 rfl)) (by decide) (backOf (W := 0) (rm14o l Z a0 hw [] rv (gg59 i.toNatClampNeg) wd hd il ix fL wL h62 n0 Z62 E_rv_62 F_words_rv_62 F_held_rv_62 F_blocks_rv_62 F_sorted_rv_62 E_il_62 F_indices_il_62 F_size_il_62 A_ix_62 A_wd_62 A_hd_62 (own_n3i hn (own_mem0 hm (own_gi_mem hl59 hg59 hI hc60))) ge_rv ge_wd ge_hd ge_il ge_ix) hZ (oW hw 130 rfl) (oW hw 28 rfl) (by decide) (by decide)) q66a q66c (g := (mkF m 280 #[oR r0, oI p1, .val (.long (own_tot (own_tot (0 : Int64) La) Lb)), oS, oR ob, oI 2, oI 0, oR xa59, oI i, .val (.int (gg59 i.toNatClampNeg)), oU] [(.int (gg59 i.toNatClampNeg)), (.ref rv)])) rfl (by rw [hml]; rfl) (Steps.refl _) (argsL := [(.int (gg59 i.toNatClampNeg))]) (rest := []) (lenOf own_pd308 rfl) rfl (by show 2 * 0 + _ ≤ _; exact Nat.le_of_eq rfl) (hb hby d9_280) (fun _ _ => ⟨rfl, e63, (by decide : 2 + 0 ≤ _), (by decide : 8 + 0 ≤ _)⟩)
         dsimp only [Pt.U, Pt.locs, Pt.cells, Pt.slots] at X66 l66 y66 z66 st66 hQ66
         replace y66 : 2 = k66 := y66.symm
         replace z66 : 8 = n66 := z66.symm
         subst y66 z66
         obtain ⟨rfl, N66q, Kq66, E_rv_66, F_words_rv_66, F_held_rv_66, F_blocks_rv_66, F_sorted_rv_66, E_il_66, F_indices_il_66, F_size_il_66, A_ix_66, A_wd_66, A_hd_66⟩ := hQ66
         have N66 : Fr n0 L66 := by rw [l66]; exact Fr.app N62 N66q
         have E_r0_66 := E_r0_62.keep Kq66
         have u66_r0 := (ninS (ne_exa E_r0_62 E_rv_62 (by decide)) (ninS (own_ne_arf E_r0_62 (oW hw 2 rfl) A_wd_62) (ninS (own_ne_arf E_r0_62 (oW hw 2 rfl) A_hd_62) (ninS (ne_exa E_r0_62 E_il_62 (by decide)) (ninS (own_ne_arf E_r0_62 (oW hw 2 rfl) A_ix_62) nin0)))))
         have F_receivers_r0_66 := F_receivers_r0_62.keep Kq66 u66_r0
         have F_outboxes_r0_66 := F_outboxes_r0_62.keep Kq66 u66_r0
         have F_recipients_r0_66 := F_recipients_r0_62.keep Kq66 u66_r0
         have F_delivered_r0_66 := F_delivered_r0_62.keep Kq66 u66_r0
         have F_senders_r0_66 := F_senders_r0_62.keep Kq66 u66_r0
         have F_messages_r0_66 := F_messages_r0_62.keep Kq66 u66_r0
         have F_first_r0_66 := F_first_r0_62.keep Kq66 u66_r0
         have F_end_r0_66 := F_end_r0_62.keep Kq66 u66_r0
         have O_ob_66 := O_ob_62.keep Kq66 (ninS (Ne.symm (own_ne_oa E_rv_62 (oW hw 27 rfl) O_ob_62)) (ninS (Ne.symm (own_ne_oarf A_wd_62 O_ob_62 (by decide))) (ninS (Ne.symm (own_ne_oarf A_hd_62 O_ob_62 (by decide))) (ninS (Ne.symm (own_ne_oa E_il_62 (oW hw 38 rfl) O_ob_62)) (ninS (Ne.symm (own_ne_oarf A_ix_62 O_ob_62 (by decide))) nin0)))))
         have B_0_66 := B_0_62.keep Kq66 (allS nb_rv_0 (allS nb_wd_0 (allS nb_hd_0 (allS nb_il_0 (allS nb_ix_0 all0)))))
         have B_1_66 := B_1_62.keep Kq66 (allS nb_rv_1 (allS nb_wd_1 (allS nb_hd_1 (allS nb_il_1 (allS nb_ix_1 all0)))))
         have A_fa_66 := A_fa_62.keep Kq66 (ninS (Ne.symm (own_ne_arf E_rv_62 (oW hw 27 rfl) A_fa_62)) (ninS (own_ne_ty A_fa_62 A_wd_62 (by decide)) (ninS (own_ne_ty A_fa_62 A_hd_62 (by decide)) (ninS (Ne.symm (own_ne_arf E_il_62 (oW hw 38 rfl) A_fa_62)) (ninS (Ne.symm ne_ix_fa) nin0)))))
         have A_ea_66 := A_ea_62.keep Kq66 (ninS (Ne.symm (own_ne_arf E_rv_62 (oW hw 27 rfl) A_ea_62)) (ninS (own_ne_ty A_ea_62 A_wd_62 (by decide)) (ninS (own_ne_ty A_ea_62 A_hd_62 (by decide)) (ninS (Ne.symm (own_ne_arf E_il_62 (oW hw 38 rfl) A_ea_62)) (ninS (Ne.symm ne_ix_ea) nin0)))))
         have E_xa59_66 := E_xa59_62.keep Kq66
         have u66_xa59 := (ninS (Ne.symm (own_nx nb_rv_0 (i := 0) (by rw [hD59]; rfl))) (ninS (Ne.symm (own_nx nb_wd_0 (i := 0) (by rw [hD59]; rfl))) (ninS (Ne.symm (own_nx nb_hd_0 (i := 0) (by rw [hD59]; rfl))) (ninS (Ne.symm (own_nx nb_il_0 (i := 0) (by rw [hD59]; rfl))) (ninS (Ne.symm (own_nx nb_ix_0 (i := 0) (by rw [hD59]; rfl))) nin0)))))
         have F_size_xa59_66 := F_size_xa59_62.keep Kq66 u66_xa59
         have F_senders_xa59_66 := F_senders_xa59_62.keep Kq66 u66_xa59
         have F_receivers_xa59_66 := F_receivers_xa59_62.keep Kq66 u66_xa59
         have F_messages_xa59_66 := F_messages_xa59_62.keep Kq66 u66_xa59
         have A_xb59_66 := A_xb59_62.keep Kq66 (ninS (Ne.symm (own_nx nb_rv_0 (i := 1) (by rw [hD59]; rfl))) (ninS (Ne.symm (own_nx nb_wd_0 (i := 1) (by rw [hD59]; rfl))) (ninS (Ne.symm (own_nx nb_hd_0 (i := 1) (by rw [hD59]; rfl))) (ninS (Ne.symm (own_nx nb_il_0 (i := 1) (by rw [hD59]; rfl))) (ninS (Ne.symm (own_nx nb_ix_0 (i := 1) (by rw [hD59]; rfl))) nin0)))))
         have A_xc59_66 := A_xc59_62.keep Kq66 (ninS (Ne.symm (own_nx nb_rv_0 (i := 2) (by rw [hD59]; rfl))) (ninS (Ne.symm (own_nx nb_wd_0 (i := 2) (by rw [hD59]; rfl))) (ninS (Ne.symm (own_nx nb_hd_0 (i := 2) (by rw [hD59]; rfl))) (ninS (Ne.symm (own_nx nb_il_0 (i := 2) (by rw [hD59]; rfl))) (ninS (Ne.symm (own_nx nb_ix_0 (i := 2) (by rw [hD59]; rfl))) nin0)))))
         have A_xd59_66 := A_xd59_62.keep Kq66 (ninS (Ne.symm (own_nx nb_rv_0 (i := 3) (by rw [hD59]; rfl))) (ninS (Ne.symm (own_nx nb_wd_0 (i := 3) (by rw [hD59]; rfl))) (ninS (Ne.symm (own_nx nb_hd_0 (i := 3) (by rw [hD59]; rfl))) (ninS (Ne.symm (own_nx nb_il_0 (i := 3) (by rw [hD59]; rfl))) (ninS (Ne.symm (own_nx nb_ix_0 (i := 3) (by rw [hD59]; rfl))) nin0)))))
         have Z66 : n0 ≤ T66.heap.size := Nat.le_trans Z62 Kq66.1
         refine own_go (fun tg k => st66.trans k) ?_
         show oF (T66.setTop (mkF m 283 #[oR r0, oI p1, .val (.long (own_tot (own_tot (0 : Int64) La) Lb)), oS, oR ob, oI 2, oI 0, oR xa59, oI i, .val (.int (gg59 i.toNatClampNeg)), oU] []))
         refine own_go (fun _ k => XS.iinc X66.here hx rfl (hb hby d9_283) rfl (l' := #[oR r0, oI p1, .val (.long (own_tot (own_tot (0 : Int64) La) Lb)), oS, oR ob, oI 2, oI 0, oR xa59, .val (.int (i + (1 : Int32))), .val (.int (gg59 i.toNatClampNeg)), oU]) rfl (XS.goto X66.here hx rfl (pc0 := 286) (pc' := 243) rfl (hb hby d9_286) (by decide) (by decide) k)) ?_
         show oF (T66.setTop (mkF m 243 #[oR r0, oI p1, .val (.long (own_tot (own_tot (0 : Int64) La) Lb)), oS, oR ob, oI 2, oI 0, oR xa59, .val (.int (i + (1 : Int32))), .val (.int (gg59 i.toNatClampNeg)), oU] []))
         exact ihA0 _ (own_I2m hl59 hI hc60 hkA0) ((i + (1 : Int32))) ((own_set eL (gg59 i.toNatClampNeg) ((eL (gg59 i.toNatClampNeg).toNatClampNeg) + (1 : Int32)))) ((wL ||| (own_lshl (1 : Int64) (gg59 i.toNatClampNeg)))) ((1 : Int32)) (fL) T66 _ T66.heap (.val (.int (gg59 i.toNatClampNeg))) rfl (own_I2s1 hl59 hg59 hI hc60 hv64) (own_mono X66 (by decide) (by decide)) N66 rfl (One.val rfl) Z66 E_r0_66 F_receivers_r0_66 F_outboxes_r0_66 F_recipients_r0_66 F_delivered_r0_66 F_senders_r0_66 F_messages_r0_66 F_first_r0_66 F_end_r0_66 O_ob_66 B_0_66 B_1_66 E_rv_66 F_words_rv_66 F_held_rv_66 F_blocks_rv_66 F_sorted_rv_66 E_il_66 F_indices_il_66 F_size_il_66 A_ix_66 A_wd_66 A_hd_66 A_fa_66 A_ea_66 E_xa59_66 F_size_xa59_66 F_senders_xa59_66 F_receivers_xa59_66 F_messages_xa59_66 A_xb59_66 A_xc59_66 A_xd59_66
     · refine own_go (fun _ k => XS.icmpYes XA0L.here hx rfl (pc0 := 250) (pc' := 289) rfl (hb hby d9_250) rfl (flt hc60).2.1 (by decide) (by decide) k) ?_
       show oF (TA0L.setTop (mkF m 289 #[oR r0, oI p1, .val (.long (own_tot (own_tot (0 : Int64) La) Lb)), oS, oR ob, oI 2, oI 0, oR xa59, oI i, j9A0, oU] []))
       exact hk2  TA0L _ hA0L (oR xa59) (oI i) (j9A0) (own_mono XA0L (by decide) (by decide)) NA0L eA0L (One.val rfl) (One.val rfl) hj9A0 ZA0L E_r0_A0L F_receivers_r0_A0L F_outboxes_r0_A0L F_recipients_r0_A0L F_delivered_r0_A0L F_senders_r0_A0L F_messages_r0_A0L F_first_r0_A0L F_end_r0_A0L O_ob_A0L B_0_A0L B_1_A0L E_rv_A0L F_words_rv_A0L F_held_rv_A0L F_blocks_rv_A0L F_sorted_rv_A0L E_il_A0L F_indices_il_A0L (by rw [← (own_I2x hl59 hI hc60).2.2.1]; exact F_size_il_A0L) (by rw [← (own_I2x hl59 hI hc60).2.2.2]; exact A_ix_A0L) (by rw [← (own_I2x hl59 hI hc60).2.1]; exact A_wd_A0L) (by rw [← (own_I2x hl59 hI hc60).2.2.1]; exact A_hd_A0L) A_fa_A0L (by rw [← (own_I2x hl59 hI hc60).1]; exact A_ea_A0L)
   exact loopA0 _ ((0 : Int32)) ((fun _ => (0 : Int32))) ((0 : Int64)) ((0 : Int32)) (fi) T1 _ ht (.unset) rfl (own_I20 (by decide)) (own_mono X1 (by decide) (by decide)) Nt e1 One.u Zt E_r0_0 F_receivers_r0_0 F_outboxes_r0_0 F_recipients_r0_0 F_delivered_r0_0 F_senders_r0_0 F_messages_r0_0 F_first_r0_0 F_end_r0_0 O_ob_0 B_0_0 B_1_0 E_rv_0 F_words_rv_0 F_held_rv_0 F_blocks_rv_0 F_sorted_rv_0 E_il_0 F_indices_il_0 F_size_il_0 A_ix_0 A_wd_0 A_hd_0 A_fa_0 A_ea_0 E_xa59_o F_size_xa59_o F_senders_xa59_o F_receivers_xa59_o F_messages_xa59_o A_xb59_o A_xc59_o A_xd59_o
theorem own_sn694 {Z : State} {a0 : Array Value} (hw : oH Z a0) : oO Z oC0 "receivers" "I" ≠ oO Z oC0 "delivered" "I" := slot_ne (Or.inr (oW hw 19 rfl)) (Or.inl (oW hw 116 rfl)) (by decide) (t := .int) (t' := .int) (by decide) (by decide)
theorem own_sn695 {Z : State} {a0 : Array Value} (hw : oH Z a0) : oO Z oC0 "outboxes" oC4 ≠ oO Z oC0 "delivered" "I" := slot_ne (Or.inr (oW hw 25 rfl)) (Or.inl (oW hw 116 rfl)) (by decide) (t := (.array (.object oC2))) (t' := .int) (by decide) (by decide)
theorem own_sn696 {Z : State} {a0 : Array Value} (hw : oH Z a0) : oO Z oC0 "recipients" oC6 ≠ oO Z oC0 "delivered" "I" := slot_ne (Or.inr (oW hw 58 rfl)) (Or.inl (oW hw 116 rfl)) (by decide) (t := (.object oC1)) (t' := .int) (by decide) (by decide)
theorem own_sn697 {Z : State} {a0 : Array Value} (hw : oH Z a0) : oO Z oC0 "senders" "[I" ≠ oO Z oC0 "delivered" "I" := slot_ne (Or.inl (oW hw 118 rfl)) (Or.inl (oW hw 116 rfl)) (by decide) (t := (.array .int)) (t' := .int) (by decide) (by decide)
theorem own_sn698 {Z : State} {a0 : Array Value} (hw : oH Z a0) : oO Z oC0 "messages" "[J" ≠ oO Z oC0 "delivered" "I" := slot_ne (Or.inl (oW hw 120 rfl)) (Or.inl (oW hw 116 rfl)) (by decide) (t := (.array .long)) (t' := .int) (by decide) (by decide)
theorem own_sn699 {Z : State} {a0 : Array Value} (hw : oH Z a0) : oO Z oC0 "first" "[I" ≠ oO Z oC0 "delivered" "I" := slot_ne (Or.inl (oW hw 122 rfl)) (Or.inl (oW hw 116 rfl)) (by decide) (t := (.array .int)) (t' := .int) (by decide) (by decide)
theorem own_sn700 {Z : State} {a0 : Array Value} (hw : oH Z a0) : oO Z oC0 "end" "[I" ≠ oO Z oC0 "delivered" "I" := slot_ne (Or.inl (oW hw 124 rfl)) (Or.inl (oW hw 116 rfl)) (by decide) (t := (.array .int)) (t' := .int) (by decide) (by decide)
theorem d9_0 : oQ oD24 0 (.iconst 0) 1 := by decide +kernel
theorem d9_1 : oQ oD24 1 (.istore_n 2) 1 := by decide +kernel
theorem d9_2 : oQ oD24 2 (.iload_n 2) 1 := by decide +kernel
theorem d9_3 : oQ oD24 3 (.aload_n 0) 1 := by decide +kernel
theorem d9_4 : oQ oD24 4 (.getfield 36) 3 := by decide +kernel
theorem d9_7 : oQ oD24 7 (.invokevirtual 64) 3 := by decide +kernel
theorem d9_10 : oQ oD24 10 (.if_icmp .ge 58) 3 := by decide +kernel
theorem d9_68 : oQ oD24 68 (.aload_n 0) 1 := by decide +kernel
theorem d9_69 : oQ oD24 69 (.getfield 36) 3 := by decide +kernel
theorem d9_72 : oQ oD24 72 (.invokevirtual 80) 3 := by decide +kernel
theorem d9_75 : oQ oD24 75 (.lconst 0) 1 := by decide +kernel
theorem d9_76 : oQ oD24 76 (.lstore_n 2) 1 := by decide +kernel
theorem d9_77 : oQ oD24 77 (.aload_n 0) 1 := by decide +kernel
theorem d9_78 : oQ oD24 78 (.getfield 21) 3 := by decide +kernel
theorem d9_81 : oQ oD24 81 (.astore 4) 2 := by decide +kernel
theorem d9_83 : oQ oD24 83 (.aload 4) 2 := by decide +kernel
theorem d9_85 : oQ oD24 85 .arraylength 1 := by decide +kernel
theorem d9_86 : oQ oD24 86 (.istore 5) 2 := by decide +kernel
theorem d9_88 : oQ oD24 88 (.iconst 0) 1 := by decide +kernel
theorem d9_89 : oQ oD24 89 (.istore 6) 2 := by decide +kernel
theorem d9_91 : oQ oD24 91 (.iload 6) 2 := by decide +kernel
theorem d9_93 : oQ oD24 93 (.iload 5) 2 := by decide +kernel
theorem d9_95 : oQ oD24 95 (.if_icmp .ge 34) 3 := by decide +kernel
theorem d9_98 : oQ oD24 98 (.aload 4) 2 := by decide +kernel
theorem d9_100 : oQ oD24 100 (.iload 6) 2 := by decide +kernel
theorem d9_102 : oQ oD24 102 .aaload 1 := by decide +kernel
theorem d9_103 : oQ oD24 103 (.astore 7) 2 := by decide +kernel
theorem d9_105 : oQ oD24 105 (.lload_n 2) 1 := by decide +kernel
theorem d9_106 : oQ oD24 106 (.aload 7) 2 := by decide +kernel
theorem d9_108 : oQ oD24 108 (.ifnonnull 7) 3 := by decide +kernel
theorem d9_111 : oQ oD24 111 (.lconst 0) 1 := by decide +kernel
theorem d9_112 : oQ oD24 112 (.goto 9) 3 := by decide +kernel
theorem d9_115 : oQ oD24 115 (.aload 7) 2 := by decide +kernel
theorem d9_117 : oQ oD24 117 (.getfield 83) 3 := by decide +kernel
theorem d9_120 : oQ oD24 120 .i2l 1 := by decide +kernel
theorem d9_121 : oQ oD24 121 .ladd 1 := by decide +kernel
theorem d9_122 : oQ oD24 122 (.lstore_n 2) 1 := by decide +kernel
theorem d9_123 : oQ oD24 123 (.iinc 6 1) 3 := by decide +kernel
theorem d9_126 : oQ oD24 126 (.goto (-35)) 3 := by decide +kernel
theorem d9_129 : oQ oD24 129 (.lload_n 2) 1 := by decide +kernel
theorem d9_130 : oQ oD24 130 (.ldc2_w 86) 3 := by decide +kernel
theorem d9_133 : oQ oD24 133 .lcmp 1 := by decide +kernel
theorem d9_134 : oQ oD24 134 (.ifCond .le 22) 3 := by decide +kernel
theorem d9_156 : oQ oD24 156 (.aload_n 0) 1 := by decide +kernel
theorem d9_157 : oQ oD24 157 (.lload_n 2) 1 := by decide +kernel
theorem d9_158 : oQ oD24 158 .l2i 1 := by decide +kernel
theorem d9_159 : oQ oD24 159 (.putfield 54) 3 := by decide +kernel
theorem d9_162 : oQ oD24 162 (.aload_n 0) 1 := by decide +kernel
theorem d9_163 : oQ oD24 163 .aconst_null 1 := by decide +kernel
theorem d9_164 : oQ oD24 164 (.putfield 57) 3 := by decide +kernel
theorem d9_167 : oQ oD24 167 (.aload_n 0) 1 := by decide +kernel
theorem d9_168 : oQ oD24 168 .aconst_null 1 := by decide +kernel
theorem d9_169 : oQ oD24 169 (.putfield 60) 3 := by decide +kernel
theorem d9_172 : oQ oD24 172 (.lload_n 2) 1 := by decide +kernel
theorem d9_173 : oQ oD24 173 (.lconst 0) 1 := by decide +kernel
theorem d9_174 : oQ oD24 174 .lcmp 1 := by decide +kernel
theorem d9_175 : oQ oD24 175 (.ifCond .ne 5) 3 := by decide +kernel
theorem d9_178 : oQ oD24 178 (.iconst 0) 1 := by decide +kernel
theorem d9_179 : oQ oD24 179 .ireturn 1 := by decide +kernel
def Qrm9f0 (Z : State) (r0 : Addr) (p1 : Int32) (n : Int32) (ob : Addr) (rv : Addr) (dl : Int32) (vS : Value) (vM : Value) (v0 : Value) (v1 : Value) (Da : List Addr) (Db : List Addr) (La : List Int32) (Lb : List Int32) (wd : Addr) (hd : Addr) (il : Addr) (ix : Addr) (fi : Nat → Int32) (h0 : Heap) (n0 : Nat) (v : Option Value) (h : Heap) (L : List Loc) : Prop := ∃ dx : Int32, ∃ vSx : Value, ∃ vMx : Value, v = some (.int 0) ∧ Fr n0 L ∧ h0.size ≤ h.size ∧ Exa Z h r0 oC0 ∧ Fld Z h r0 oC0 "receivers" "I" (.int n) ∧ Fld Z h r0 oC0 "outboxes" oC4 (.ref ob) ∧ Fld Z h r0 oC0 "recipients" oC6 (.ref rv) ∧ Fld Z h r0 oC0 "delivered" "I" (.int dx) ∧ Fld Z h r0 oC0 "senders" "[I" vSx ∧ Fld Z h r0 oC0 "messages" "[J" vMx ∧ Fld Z h r0 oC0 "first" "[I" .null ∧ Fld Z h r0 oC0 "end" "[I" .null ∧ own_Oa Z h ob oC2 v0 v1 ∧ own_Box Z h n0 v0 Da [] ∧ own_Box Z h n0 v1 Db [] ∧ Exa Z h rv oC1 ∧ Fld Z h rv oC1 "words" "[J" (.ref wd) ∧ Fld Z h rv oC1 "held" "[Z" (.ref hd) ∧ Fld Z h rv oC1 "blocks" oC5 (.ref il) ∧ Fld Z h rv oC1 "sorted" "Z" (.int 1) ∧ Exa Z h il oC3 ∧ Fld Z h il oC3 "indices" "[I" (.ref ix) ∧ Fld Z h il oC3 "size" "I" (.int 0) ∧ own_Arf Z h wd .long (16 : Int32) (fun i => .long ((own_w0 (0 : Int64)) i)) ∧ own_Arf Z h hd .boolean (1 : Int32) (fun i => .int ((fun _ => (0 : Int32)) i)) ∧ own_Arf Z h ix .int (16 : Int32) (fun i => .int (fi i))
set_option maxRecDepth 65536 in
set_option maxHeartbeats 40000000 in
theorem rm9f0 (l : Launch) (Z : State) (a0 : Array Value) (hw : oH Z a0) (ws : List Jvm.Cond) (r0 : Addr) (p1 : Int32) (n : Int32) (ob : Addr) (rv : Addr) (dl : Int32) (vS : Value) (vM : Value) (v0 : Value) (v1 : Value) (Da : List Addr) (Db : List Addr) (La : List Int32) (Lb : List Int32) (wd : Addr) (hd : Addr) (il : Addr) (ix : Addr) (fi : Nat → Int32) (h0 : Heap) (n0 : Nat) (Z0 : n0 ≤ h0.size) (E_r0_0 : Exa Z h0 r0 oC0) (F_receivers_r0_0 : Fld Z h0 r0 oC0 "receivers" "I" (.int n)) (F_outboxes_r0_0 : Fld Z h0 r0 oC0 "outboxes" oC4 (.ref ob)) (F_recipients_r0_0 : Fld Z h0 r0 oC0 "recipients" oC6 (.ref rv)) (F_delivered_r0_0 : Fld Z h0 r0 oC0 "delivered" "I" (.int dl)) (F_senders_r0_0 : Fld Z h0 r0 oC0 "senders" "[I" vS) (F_messages_r0_0 : Fld Z h0 r0 oC0 "messages" "[J" vM) (F_first_r0_0 : Fld Z h0 r0 oC0 "first" "[I" .null) (F_end_r0_0 : Fld Z h0 r0 oC0 "end" "[I" .null) (O_ob_0 : own_Oa Z h0 ob oC2 v0 v1) (B_0_0 : own_Box Z h0 n0 v0 Da La) (B_1_0 : own_Box Z h0 n0 v1 Db Lb) (E_rv_0 : Exa Z h0 rv oC1) (F_words_rv_0 : Fld Z h0 rv oC1 "words" "[J" (.ref wd)) (F_held_rv_0 : Fld Z h0 rv oC1 "held" "[Z" (.ref hd)) (F_blocks_rv_0 : Fld Z h0 rv oC1 "blocks" oC5 (.ref il)) (F_sorted_rv_0 : Fld Z h0 rv oC1 "sorted" "Z" (.int 1)) (E_il_0 : Exa Z h0 il oC3) (F_indices_il_0 : Fld Z h0 il oC3 "indices" "[I" (.ref ix)) (F_size_il_0 : Fld Z h0 il oC3 "size" "I" (.int 0)) (A_ix_0 : own_Arf Z h0 ix .int (16 : Int32) (fun i => .int (fi i))) (A_wd_0 : own_Arf Z h0 wd .long (16 : Int32) (fun i => .long ((own_w0 (0 : Int64)) i))) (A_hd_0 : own_Arf Z h0 hd .boolean (1 : Int32) (fun i => .int ((fun _ => (0 : Int32)) i))) (ge_r0 : n0 ≤ r0) (ge_rv : n0 ≤ rv) (ge_wd : n0 ≤ wd) (ge_hd : n0 ≤ hd) (ge_il : n0 ≤ il) (ge_ix : n0 ≤ ix) (nb_r0_0 : r0 ∉ Da) (nb_r0_1 : r0 ∉ Db) (nb_rv_0 : rv ∉ Da) (nb_rv_1 : rv ∉ Db) (nb_wd_0 : wd ∉ Da) (nb_wd_1 : wd ∉ Db) (nb_hd_0 : hd ∉ Da) (nb_hd_1 : hd ∉ Db) (nb_il_0 : il ∉ Da) (nb_il_1 : il ∉ Db) (nb_ix_0 : ix ∉ Da) (nb_ix_1 : ix ∉ Db) (hdj : ∀ x ∈ Da, x ∉ Db) (hn : own_n14 n) (hl : La.length + Lb.length ≤ 3) (hm : ∀ r ∈ La ++ Lb, own_in r n) (hz : La ++ Lb = []) :
    MetFree l oM24 (head1 (Jvm.Cond.code oM24 prog_18_method_9_code 11 (some .boolean) :: ws) rm9t_room) (fun a U => a = #[(.ref r0), (.int p1)] ∧ Z.Warmed39 U.vm ∧ U.heap = h0) (fun _ _ _ _ _ => True) (fun _ U o U' => ∃ v L, o = .returned v ∧ Qrm9f0 Z r0 p1 n ob rv dl vS vM v0 v1 Da Db La Lb wd hd il ix fi h0 n0 v U'.heap L ∧ FrameEnd U o U' L rm9t_room.cells rm9t_room.slots) := by
 refine MetFree.of_bodySF (plainFor_of_name pn_9) hisR ?_
 intro p e s m args below meth c s₁ Bd hml0 hP hK
 obtain ⟨rfl, hZ, hh⟩ := hP
 have hx := Bd.exec
 have hby := Bd.bytes
 have hml : c.maxLocals = 11 := hml0
 have hown : s.vm.findClass oC0 = some m.cls := findClass_of_methodNamed Bd.named
 have hnm := (name_of_methodNamed Bd.named Bd.method).1
 have hlk : meth.locks = false := BodyLoose.notSynchronized Bd
 have X0 : Stand p l e rm9t_room s m #[(.ref r0), (.int p1)] below meth c s₁ [] 0 0 := Stand.of_body Bd
 have e0 : s₁.heap = h0 := by rw [← hh, Bd.state]; rfl
 have N0 := Fr.nil n0
 show own_Fin p.tables e below s (Qrm9f0 Z r0 p1 n ob rv dl vS vM v0 v1 Da Db La Lb wd hd il ix fi h0 n0) rm9t_room.cells rm9t_room.slots (s₁.setTop (entryFrame m #[(.ref r0), (.int p1)] 11))
 rw [ef_9]
 show oF (s₁.setTop (mkF m 0 #[oR r0, oI p1, oU, oU, oU, oU, oU, oU, oU, oU, oU] []))
 have hdk : ∀ x ∈ Db, x ∉ Da := fun x h1 h0 => hdj x h0 h1
 refine own_go (fun _ k => XS.iconst X0.here hx rfl (hb hby d9_0) (XS.istoreN X0.here hx rfl (hb hby d9_1) rfl (l' := #[oR r0, oI p1, oI 0, oU, oU, oU, oU, oU, oU, oU, oU]) rfl (XS.iloadN X0.here hx rfl (hb hby d9_2) rfl (XS.aloadN X0.here hx rfl (hb hby d9_3) rfl rfl k)))) ?_
 obtain ⟨T1, X1, e1, st1⟩ := getF X0 hx hZ hown (host := "") (Or.inl (oW hw 57 rfl)) Via.refl e0 F_recipients_r0_0 (g := (mkF m 4 #[oR r0, oI p1, oI 0, oU, oU, oU, oU, oU, oU, oU, oU] [(.ref r0), (.int 0)])) rfl rfl (hb hby d9_4)
 refine own_go (fun tg k => st1 tg k) ?_
 obtain ⟨cq2, kq2, q2a, q2b, q2c⟩ := isOf hZ e1 E_rv_0
 obtain ⟨_, _, ⟨T2, L2, k2, n2⟩, -, X2, ⟨Lc2, hQ2, l2, y2, z2⟩, st2⟩ := X1.virtualBack hx (y := oM11) (z := oM11) hown (mvT hZ (oW hw 91 rfl)) (mvT hZ (oW hw 92 rfl)) (notFace_of_selects (args := #[]) (mvT hZ (oW hw 94 rfl))) (mvT hZ (oW hw 94 rfl)) (mvT hZ (oW hw 93 rfl)) (by decide) (backOf (W := 1) (rm10 l Z a0 hw [] rv il (0 : Int32) h0 n0 Z0 F_blocks_rv_0 E_il_0 F_size_il_0) hZ (oW hw 95 rfl) (oW hw 28 rfl) (by decide) (by decide)) q2a q2c (g := (mkF m 7 #[oR r0, oI p1, oI 0, oU, oU, oU, oU, oU, oU, oU, oU] [(.ref rv), (.int 0)])) rfl (by rw [hml]; rfl) (Steps.refl _) (argsL := []) (rest := [(.int 0)]) (lenOf own_pd194 rfl) rfl (by show 2 * 0 + _ ≤ _; exact Nat.le_of_eq rfl) (hb hby d9_7) (fun _ _ => ⟨rfl, e1, (by decide : 0 + 0 ≤ _), (by decide : 0 + 0 ≤ _)⟩)
 dsimp only [Pt.U, Pt.locs, Pt.cells, Pt.slots] at X2 l2 y2 z2 st2 hQ2
 replace y2 : 0 = k2 := y2.symm
 replace z2 : 0 = n2 := z2.symm
 subst y2 z2
 obtain ⟨rfl, N2q, e2⟩ := hQ2
 have N2 : Fr n0 L2 := by rw [l2]; exact Fr.app N0 N2q
 refine own_go (fun tg k => st2.trans k) ?_
 show oF (T2.setTop (mkF m 10 #[oR r0, oI p1, oI 0, oU, oU, oU, oU, oU, oU, oU, oU] [(.int 0), (.int 0)]))
 refine own_go (fun _ k => XS.icmpYes X2.here hx rfl (pc0 := 10) (pc' := 68) rfl (hb hby d9_10) rfl (flt (by decide)).2.1 (by decide) (by decide) k) ?_
 show oF (T2.setTop (mkF m 68 #[oR r0, oI p1, oI 0, oU, oU, oU, oU, oU, oU, oU, oU] []))
 refine own_go (fun _ k => XS.aloadN X2.here hx rfl (hb hby d9_68) rfl rfl k) ?_
 obtain ⟨T3, X3, e3, st3⟩ := getF X2 hx hZ hown (host := "") (Or.inl (oW hw 57 rfl)) Via.refl e2 F_recipients_r0_0 (g := (mkF m 69 #[oR r0, oI p1, oI 0, oU, oU, oU, oU, oU, oU, oU, oU] [(.ref r0)])) rfl rfl (hb hby d9_69)
 refine own_go (fun tg k => st3 tg k) ?_
 obtain ⟨cq4, kq4, q4a, q4b, q4c⟩ := isOf hZ e3 E_rv_0
 obtain ⟨_, _, ⟨T4, L4, k4, n4⟩, -, X4, ⟨Lc4, hQ4, l4, y4, z4⟩, st4⟩ := X3.virtualBack hx (y := oM17) (z := oM17) hown (mvT hZ (oW hw 103 rfl)) (mvT hZ (oW hw 104 rfl)) (notFace_of_selects (args := #[]) (mvT hZ (oW hw 106 rfl))) (mvT hZ (oW hw 106 rfl)) (mvT hZ (oW hw 105 rfl)) (by decide) (backOf (W := 0) (rm12z l Z a0 hw [] rv wd hd il ix fi h0 n0 Z0 E_rv_0 F_words_rv_0 F_held_rv_0 F_blocks_rv_0 F_sorted_rv_0 E_il_0 F_indices_il_0 F_size_il_0 A_ix_0 A_wd_0 A_hd_0 ge_rv ge_wd ge_hd ge_il ge_ix) hZ (oW hw 107 rfl) (oW hw 28 rfl) (by decide) (by decide)) q4a q4c (g := (mkF m 72 #[oR r0, oI p1, oI 0, oU, oU, oU, oU, oU, oU, oU, oU] [(.ref rv)])) rfl (by rw [hml]; rfl) (Steps.refl _) (argsL := []) (rest := []) (lenOf own_pd158 rfl) rfl (by show 2 * 0 + _ ≤ _; exact Nat.le_of_eq rfl) (hb hby d9_72) (fun _ _ => ⟨rfl, e3, (by decide : 0 + 0 ≤ _), (by decide : 0 + 0 ≤ _)⟩)
 dsimp only [Pt.U, Pt.locs, Pt.cells, Pt.slots] at X4 l4 y4 z4 st4 hQ4
 replace y4 : 0 = k4 := y4.symm
 replace z4 : 0 = n4 := z4.symm
 subst y4 z4
 obtain ⟨rfl, N4q, Kq4, E_rv_4, F_words_rv_4, F_held_rv_4, F_blocks_rv_4, F_sorted_rv_4, E_il_4, F_indices_il_4, F_size_il_4, A_wd_4, A_hd_4⟩ := hQ4
 have N4 : Fr n0 L4 := by rw [l4]; exact Fr.app N2 N4q
 have E_r0_4 := E_r0_0.keep Kq4
 have u4_r0 := (ninS (ne_exa E_r0_0 E_rv_0 (by decide)) (ninS (own_ne_arf E_r0_0 (oW hw 2 rfl) A_wd_0) (ninS (own_ne_arf E_r0_0 (oW hw 2 rfl) A_hd_0) (ninS (ne_exa E_r0_0 E_il_0 (by decide)) nin0))))
 have F_receivers_r0_4 := F_receivers_r0_0.keep Kq4 u4_r0
 have F_outboxes_r0_4 := F_outboxes_r0_0.keep Kq4 u4_r0
 have F_recipients_r0_4 := F_recipients_r0_0.keep Kq4 u4_r0
 have F_delivered_r0_4 := F_delivered_r0_0.keep Kq4 u4_r0
 have F_senders_r0_4 := F_senders_r0_0.keep Kq4 u4_r0
 have F_messages_r0_4 := F_messages_r0_0.keep Kq4 u4_r0
 have F_first_r0_4 := F_first_r0_0.keep Kq4 u4_r0
 have F_end_r0_4 := F_end_r0_0.keep Kq4 u4_r0
 have O_ob_4 := O_ob_0.keep Kq4 (ninS (Ne.symm (own_ne_oa E_rv_0 (oW hw 27 rfl) O_ob_0)) (ninS (Ne.symm (own_ne_oarf A_wd_0 O_ob_0 (by decide))) (ninS (Ne.symm (own_ne_oarf A_hd_0 O_ob_0 (by decide))) (ninS (Ne.symm (own_ne_oa E_il_0 (oW hw 38 rfl) O_ob_0)) nin0))))
 have B_0_4 := B_0_0.keep Kq4 (allS nb_rv_0 (allS nb_wd_0 (allS nb_hd_0 (allS nb_il_0 all0))))
 have B_1_4 := B_1_0.keep Kq4 (allS nb_rv_1 (allS nb_wd_1 (allS nb_hd_1 (allS nb_il_1 all0))))
 have A_ix_4 := A_ix_0.keep Kq4 (ninS (Ne.symm (own_ne_arf E_rv_0 (oW hw 27 rfl) A_ix_0)) (ninS (own_ne_ty A_ix_0 A_wd_0 (by decide)) (ninS (own_ne_ty A_ix_0 A_hd_0 (by decide)) (ninS (Ne.symm (own_ne_arf E_il_0 (oW hw 38 rfl) A_ix_0)) nin0))))
 have Z4 : n0 ≤ T4.heap.size := Nat.le_trans Z0 Kq4.1
 refine own_go (fun tg k => st4.trans k) ?_
 show oF (T4.setTop (mkF m 75 #[oR r0, oI p1, oI 0, oU, oU, oU, oU, oU, oU, oU, oU] []))
 refine own_go (fun _ k => XS.lconst X4.here hx rfl (hb hby d9_75) (XS.lstoreN X4.here hx rfl (hb hby d9_76) rfl (l' := #[oR r0, oI p1, .val (.long (0 : Int64)), oS, oU, oU, oU, oU, oU, oU, oU]) rfl (XS.aloadN X4.here hx rfl (hb hby d9_77) rfl rfl k))) ?_
 obtain ⟨T5, X5, e5, st5⟩ := getF X4 hx hZ hown (host := "") (Or.inl (oW hw 24 rfl)) Via.refl rfl F_outboxes_r0_4 (g := (mkF m 78 #[oR r0, oI p1, .val (.long (0 : Int64)), oS, oU, oU, oU, oU, oU, oU, oU] [(.ref r0)])) rfl rfl (hb hby d9_78)
 refine own_go (fun tg k => st5 tg k) ?_
 refine own_go (fun _ k => XS.astore X5.here hx rfl (hb hby d9_81) rfl rfl (l' := #[oR r0, oI p1, .val (.long (0 : Int64)), oS, oR ob, oU, oU, oU, oU, oU, oU]) rfl (XS.aload X5.here hx rfl (hb hby d9_83) rfl rfl k)) ?_
 refine own_go (fun tg k => own_oalen X5 hx hZ e5 O_ob_4 (g := (mkF m 85 #[oR r0, oI p1, .val (.long (0 : Int64)), oS, oR ob, oU, oU, oU, oU, oU, oU] [(.ref ob)])) rfl rfl (hb hby d9_85) tg k) ?_
 refine own_go (fun _ k => XS.istore X5.here hx rfl (hb hby d9_86) rfl (l' := #[oR r0, oI p1, .val (.long (0 : Int64)), oS, oR ob, oI 2, oU, oU, oU, oU, oU]) rfl (XS.iconst X5.here hx rfl (hb hby d9_88) (XS.istore X5.here hx rfl (hb hby d9_89) rfl (l' := #[oR r0, oI p1, .val (.long (0 : Int64)), oS, oR ob, oI 2, oI 0, oU, oU, oU, oU]) rfl (XS.iload X5.here hx rfl (hb hby d9_91) rfl (XS.iload X5.here hx rfl (hb hby d9_93) rfl (XS.icmpNo X5.here hx rfl (hb hby d9_95) rfl (tlt (by decide)).2.1 (XS.aload X5.here hx rfl (hb hby d9_98) rfl rfl (XS.iload X5.here hx rfl (hb hby d9_100) rfl k)))))))) ?_
 refine own_go (fun tg k => own_oald X5 hx hZ e5 O_ob_4 (v := v0) (Or.inl ⟨rfl, rfl⟩) (g := (mkF m 102 #[oR r0, oI p1, .val (.long (0 : Int64)), oS, oR ob, oI 2, oI 0, oU, oU, oU, oU] [(.int 0), (.ref ob)])) rfl rfl (hb hby d9_102) tg k) ?_
 show oF (T5.setTop (mkF m 103 #[oR r0, oI p1, .val (.long (0 : Int64)), oS, oR ob, oI 2, oI 0, oU, oU, oU, oU] [v0]))
 have hk6 : ∀ (T6L : State) (L6L : List Loc) (h6L : Heap) (j76 : Slot), Stand p l e rm9t_room s m #[(.ref r0), (.int p1)] below meth c T6L L6L 0 0 → Fr n0 L6L → T6L.heap = h6L → One j76 → n0 ≤ h6L.size → Exa Z h6L r0 oC0 → Fld Z h6L r0 oC0 "receivers" "I" (.int n) → Fld Z h6L r0 oC0 "outboxes" oC4 (.ref ob) → Fld Z h6L r0 oC0 "recipients" oC6 (.ref rv) → Fld Z h6L r0 oC0 "delivered" "I" (.int dl) → Fld Z h6L r0 oC0 "senders" "[I" vS → Fld Z h6L r0 oC0 "messages" "[J" vM → Fld Z h6L r0 oC0 "first" "[I" .null → Fld Z h6L r0 oC0 "end" "[I" .null → own_Oa Z h6L ob oC2 v0 v1 → own_Box Z h6L n0 v0 Da La → own_Box Z h6L n0 v1 Db Lb → Exa Z h6L rv oC1 → Fld Z h6L rv oC1 "words" "[J" (.ref wd) → Fld Z h6L rv oC1 "held" "[Z" (.ref hd) → Fld Z h6L rv oC1 "blocks" oC5 (.ref il) → Fld Z h6L rv oC1 "sorted" "Z" (.int 1) → Exa Z h6L il oC3 → Fld Z h6L il oC3 "indices" "[I" (.ref ix) → Fld Z h6L il oC3 "size" "I" (.int 0) → own_Arf Z h6L ix .int (16 : Int32) (fun i => .int (fi i)) → own_Arf Z h6L wd .long (16 : Int32) (fun i => .long ((own_w0 (0 : Int64)) i)) → own_Arf Z h6L hd .boolean (1 : Int32) (fun i => .int ((fun _ => (0 : Int32)) i)) → own_Fin p.tables e below s (Qrm9f0 Z r0 p1 n ob rv dl vS vM v0 v1 Da Db La Lb wd hd il ix fi h0 n0) rm9t_room.cells rm9t_room.slots (T6L.setTop (mkF m 123 #[oR r0, oI p1, .val (.long (own_tot (0 : Int64) La)), oS, oR ob, oI 2, oI 0, j76, oU, oU, oU] [])) := by
  intro T6L L6L h6L j76 X6L N6L e6L hj76 Z6L E_r0_6L F_receivers_r0_6L F_outboxes_r0_6L F_recipients_r0_6L F_delivered_r0_6L F_senders_r0_6L F_messages_r0_6L F_first_r0_6L F_end_r0_6L O_ob_6L B_0_6L B_1_6L E_rv_6L F_words_rv_6L F_held_rv_6L F_blocks_rv_6L F_sorted_rv_6L E_il_6L F_indices_il_6L F_size_il_6L A_ix_6L A_wd_6L A_hd_6L
  show oF (T6L.setTop (mkF m 123 #[oR r0, oI p1, .val (.long (own_tot (0 : Int64) La)), oS, oR ob, oI 2, oI 0, j76, oU, oU, oU] []))
  refine own_go (fun _ k => XS.iinc X6L.here hx rfl (hb hby d9_123) rfl (l' := #[oR r0, oI p1, .val (.long (own_tot (0 : Int64) La)), oS, oR ob, oI 2, oI 1, j76, oU, oU, oU]) rfl k) ?_
  show oF (T6L.setTop (mkF m 126 #[oR r0, oI p1, .val (.long (own_tot (0 : Int64) La)), oS, oR ob, oI 2, oI 1, j76, oU, oU, oU] []))
  refine own_go (fun _ k => XS.goto X6L.here hx rfl (pc0 := 126) (pc' := 91) rfl (hb hby d9_126) (by decide) (by decide) (XS.iload X6L.here hx rfl (hb hby d9_91) rfl (XS.iload X6L.here hx rfl (hb hby d9_93) rfl (XS.icmpNo X6L.here hx rfl (hb hby d9_95) rfl (tlt (by decide)).2.1 (XS.aload X6L.here hx rfl (hb hby d9_98) rfl rfl (XS.iload X6L.here hx rfl (hb hby d9_100) rfl k)))))) ?_
  refine own_go (fun tg k => own_oald X6L hx hZ e6L O_ob_6L (v := v1) (Or.inr ⟨rfl, rfl⟩) (g := (mkF m 102 #[oR r0, oI p1, .val (.long (own_tot (0 : Int64) La)), oS, oR ob, oI 2, oI 1, j76, oU, oU, oU] [(.int 1), (.ref ob)])) rfl rfl (hb hby d9_102) tg k) ?_
  show oF (T6L.setTop (mkF m 103 #[oR r0, oI p1, .val (.long (own_tot (0 : Int64) La)), oS, oR ob, oI 2, oI 1, j76, oU, oU, oU] [v1]))
  have hk7 : ∀ (T7L : State) (L7L : List Loc) (h7L : Heap) (j77 : Slot), Stand p l e rm9t_room s m #[(.ref r0), (.int p1)] below meth c T7L L7L 0 0 → Fr n0 L7L → T7L.heap = h7L → One j77 → n0 ≤ h7L.size → Exa Z h7L r0 oC0 → Fld Z h7L r0 oC0 "receivers" "I" (.int n) → Fld Z h7L r0 oC0 "outboxes" oC4 (.ref ob) → Fld Z h7L r0 oC0 "recipients" oC6 (.ref rv) → Fld Z h7L r0 oC0 "delivered" "I" (.int dl) → Fld Z h7L r0 oC0 "senders" "[I" vS → Fld Z h7L r0 oC0 "messages" "[J" vM → Fld Z h7L r0 oC0 "first" "[I" .null → Fld Z h7L r0 oC0 "end" "[I" .null → own_Oa Z h7L ob oC2 v0 v1 → own_Box Z h7L n0 v0 Da La → own_Box Z h7L n0 v1 Db Lb → Exa Z h7L rv oC1 → Fld Z h7L rv oC1 "words" "[J" (.ref wd) → Fld Z h7L rv oC1 "held" "[Z" (.ref hd) → Fld Z h7L rv oC1 "blocks" oC5 (.ref il) → Fld Z h7L rv oC1 "sorted" "Z" (.int 1) → Exa Z h7L il oC3 → Fld Z h7L il oC3 "indices" "[I" (.ref ix) → Fld Z h7L il oC3 "size" "I" (.int 0) → own_Arf Z h7L ix .int (16 : Int32) (fun i => .int (fi i)) → own_Arf Z h7L wd .long (16 : Int32) (fun i => .long ((own_w0 (0 : Int64)) i)) → own_Arf Z h7L hd .boolean (1 : Int32) (fun i => .int ((fun _ => (0 : Int32)) i)) → own_Fin p.tables e below s (Qrm9f0 Z r0 p1 n ob rv dl vS vM v0 v1 Da Db La Lb wd hd il ix fi h0 n0) rm9t_room.cells rm9t_room.slots (T7L.setTop (mkF m 123 #[oR r0, oI p1, .val (.long (own_tot (own_tot (0 : Int64) La) Lb)), oS, oR ob, oI 2, oI 1, j77, oU, oU, oU] [])) := by
   intro T7L L7L h7L j77 X7L N7L e7L hj77 Z7L E_r0_7L F_receivers_r0_7L F_outboxes_r0_7L F_recipients_r0_7L F_delivered_r0_7L F_senders_r0_7L F_messages_r0_7L F_first_r0_7L F_end_r0_7L O_ob_7L B_0_7L B_1_7L E_rv_7L F_words_rv_7L F_held_rv_7L F_blocks_rv_7L F_sorted_rv_7L E_il_7L F_indices_il_7L F_size_il_7L A_ix_7L A_wd_7L A_hd_7L
   show oF (T7L.setTop (mkF m 123 #[oR r0, oI p1, .val (.long (own_tot (own_tot (0 : Int64) La) Lb)), oS, oR ob, oI 2, oI 1, j77, oU, oU, oU] []))
   refine own_go (fun _ k => XS.iinc X7L.here hx rfl (hb hby d9_123) rfl (l' := #[oR r0, oI p1, .val (.long (own_tot (own_tot (0 : Int64) La) Lb)), oS, oR ob, oI 2, oI 2, j77, oU, oU, oU]) rfl k) ?_
   show oF (T7L.setTop (mkF m 126 #[oR r0, oI p1, .val (.long (own_tot (own_tot (0 : Int64) La) Lb)), oS, oR ob, oI 2, oI 2, j77, oU, oU, oU] []))
   refine own_go (fun _ k => XS.goto X7L.here hx rfl (pc0 := 126) (pc' := 91) rfl (hb hby d9_126) (by decide) (by decide) (XS.iload X7L.here hx rfl (hb hby d9_91) rfl (XS.iload X7L.here hx rfl (hb hby d9_93) rfl (XS.icmpYes X7L.here hx rfl (pc0 := 95) (pc' := 129) rfl (hb hby d9_95) rfl (flt (by decide)).2.1 (by decide) (by decide) k)))) ?_
   show oF (T7L.setTop (mkF m 129 #[oR r0, oI p1, .val (.long (own_tot (own_tot (0 : Int64) La) Lb)), oS, oR ob, oI 2, oI 2, j77, oU, oU, oU] []))
   refine own_go (fun _ k => XS.lloadN X7L.here hx rfl (hb hby d9_129) rfl k) ?_
   refine own_go (fun _ k => X7L.ldc2Long hx hown (mvT hZ (oW hw 114 rfl)) (g := (mkF m 130 #[oR r0, oI p1, .val (.long (own_tot (own_tot (0 : Int64) La) Lb)), oS, oR ob, oI 2, oI 2, j77, oU, oU, oU] [(.long (own_tot (own_tot (0 : Int64) La) Lb))])) rfl (hb hby d9_130) _ k) ?_
   refine own_go (fun _ k => XS.lcmp X7L.here hx rfl (hb hby d9_133) rfl k) ?_
   show oF (T7L.setTop (mkF m 134 #[oR r0, oI p1, .val (.long (own_tot (own_tot (0 : Int64) La) Lb)), oS, oR ob, oI 2, oI 2, j77, oU, oU, oU] [(.int (lcmpW (own_tot (own_tot (0 : Int64) La) Lb) (2147483639 : Int64)))]))
   have hc134 : ¬ ((2147483639 : Int64) < (own_tot (own_tot (0 : Int64) La) Lb)) := (own_totm hl)
   refine own_go (fun _ k => XS.ifYes X7L.here hx rfl (pc0 := 134) (pc' := 156) rfl (hb hby d9_134) rfl ((if0 _ _).trans (flt (mt (lw_gt _ _).mp hc134)).2.2.2) (by decide) (by decide) (XS.aloadN X7L.here hx rfl (hb hby d9_156) rfl rfl (XS.lloadN X7L.here hx rfl (hb hby d9_157) rfl (XS.l2i X7L.here hx rfl (hb hby d9_158) rfl k)))) ?_
   show oF (T7L.setTop (mkF m 159 #[oR r0, oI p1, .val (.long (own_tot (own_tot (0 : Int64) La) Lb)), oS, oR ob, oI 2, oI 2, j77, oU, oU, oU] [(.int ((own_tot (own_tot (0 : Int64) La) Lb).toInt32)), (.ref r0)]))
   obtain ⟨T8, h8, X8, e8, W8, st8⟩ := putF X7L hx hZ hown (host := "") (Or.inl (oW hw 115 rfl)) Via.refl e7L F_delivered_r0_7L E_r0_7L (Or.inl (oW hw 116 rfl)) (oW hw 2 rfl) (ty := .int) (by decide) rfl rfl (g := (mkF m 159 #[oR r0, oI p1, .val (.long (own_tot (own_tot (0 : Int64) La) Lb)), oS, oR ob, oI 2, oI 2, j77, oU, oU, oU] [(.int ((own_tot (own_tot (0 : Int64) La) Lb).toInt32)), (.ref r0)])) rfl rfl (hb hby d9_159)
   have E_r0_8 := E_r0_7L.wr W8
   have F_receivers_r0_8 := F_receivers_r0_7L.other W8 (Or.inr (own_sn694 hw))
   have F_outboxes_r0_8 := F_outboxes_r0_7L.other W8 (Or.inr (own_sn695 hw))
   have F_recipients_r0_8 := F_recipients_r0_7L.other W8 (Or.inr (own_sn696 hw))
   have F_senders_r0_8 := F_senders_r0_7L.other W8 (Or.inr (own_sn697 hw))
   have F_messages_r0_8 := F_messages_r0_7L.other W8 (Or.inr (own_sn698 hw))
   have F_first_r0_8 := F_first_r0_7L.other W8 (Or.inr (own_sn699 hw))
   have F_end_r0_8 := F_end_r0_7L.other W8 (Or.inr (own_sn700 hw))
   have O_ob_8 := O_ob_7L.other W8 (Ne.symm (own_ne_oa E_r0_7L (oW hw 2 rfl) O_ob_7L))
   have B_0_8 := B_0_7L.other W8 nb_r0_0
   have B_1_8 := B_1_7L.other W8 nb_r0_1
   have E_rv_8 := E_rv_7L.wr W8
   have u8_rv := (ne_exa E_rv_7L E_r0_7L (by decide))
   have F_words_rv_8 := F_words_rv_7L.other W8 (Or.inl u8_rv)
   have F_held_rv_8 := F_held_rv_7L.other W8 (Or.inl u8_rv)
   have F_blocks_rv_8 := F_blocks_rv_7L.other W8 (Or.inl u8_rv)
   have F_sorted_rv_8 := F_sorted_rv_7L.other W8 (Or.inl u8_rv)
   have E_il_8 := E_il_7L.wr W8
   have u8_il := (ne_exa E_il_7L E_r0_7L (by decide))
   have F_indices_il_8 := F_indices_il_7L.other W8 (Or.inl u8_il)
   have F_size_il_8 := F_size_il_7L.other W8 (Or.inl u8_il)
   have A_ix_8 := A_ix_7L.other W8 (Ne.symm (own_ne_arf E_r0_7L (oW hw 2 rfl) A_ix_7L))
   have A_wd_8 := A_wd_7L.other W8 (Ne.symm (own_ne_arf E_r0_7L (oW hw 2 rfl) A_wd_7L))
   have A_hd_8 := A_hd_7L.other W8 (Ne.symm (own_ne_arf E_r0_7L (oW hw 2 rfl) A_hd_7L))
   have N8 := Fr.snoc X8 N7L ge_r0
   have Z8 : n0 ≤ h8.size := Nat.le_trans Z7L (Keep.of_wr W8).1
   have F_delivered_r0_8 := F_delivered_r0_7L.same W8
   refine own_go (fun tg k => st8 tg k) ?_
   refine own_go (fun _ k => XS.aloadN X8.here hx rfl (hb hby d9_162) rfl rfl (XS.aconstNull X8.here hx rfl (hb hby d9_163) k)) ?_
   obtain ⟨T9, h9, X9, e9, W9, st9⟩ := putF X8 hx hZ hown (host := "") (Or.inl (oW hw 117 rfl)) Via.refl e8 F_senders_r0_8 E_r0_8 (Or.inl (oW hw 118 rfl)) (oW hw 2 rfl) (ty := (.array .int)) (by decide) rfl rfl (g := (mkF m 164 #[oR r0, oI p1, .val (.long (own_tot (own_tot (0 : Int64) La) Lb)), oS, oR ob, oI 2, oI 2, j77, oU, oU, oU] [.null, (.ref r0)])) rfl rfl (hb hby d9_164)
   have E_r0_9 := E_r0_8.wr W9
   have F_receivers_r0_9 := F_receivers_r0_8.other W9 (Or.inr (own_sn505 hw))
   have F_outboxes_r0_9 := F_outboxes_r0_8.other W9 (Or.inr (own_sn506 hw))
   have F_recipients_r0_9 := F_recipients_r0_8.other W9 (Or.inr (own_sn507 hw))
   have F_delivered_r0_9 := F_delivered_r0_8.other W9 (Or.inr (own_sn508 hw))
   have F_messages_r0_9 := F_messages_r0_8.other W9 (Or.inr (own_sn509 hw))
   have F_first_r0_9 := F_first_r0_8.other W9 (Or.inr (own_sn510 hw))
   have F_end_r0_9 := F_end_r0_8.other W9 (Or.inr (own_sn511 hw))
   have O_ob_9 := O_ob_8.other W9 (Ne.symm (own_ne_oa E_r0_8 (oW hw 2 rfl) O_ob_8))
   have B_0_9 := B_0_8.other W9 nb_r0_0
   have B_1_9 := B_1_8.other W9 nb_r0_1
   have E_rv_9 := E_rv_8.wr W9
   have u9_rv := (ne_exa E_rv_8 E_r0_8 (by decide))
   have F_words_rv_9 := F_words_rv_8.other W9 (Or.inl u9_rv)
   have F_held_rv_9 := F_held_rv_8.other W9 (Or.inl u9_rv)
   have F_blocks_rv_9 := F_blocks_rv_8.other W9 (Or.inl u9_rv)
   have F_sorted_rv_9 := F_sorted_rv_8.other W9 (Or.inl u9_rv)
   have E_il_9 := E_il_8.wr W9
   have u9_il := (ne_exa E_il_8 E_r0_8 (by decide))
   have F_indices_il_9 := F_indices_il_8.other W9 (Or.inl u9_il)
   have F_size_il_9 := F_size_il_8.other W9 (Or.inl u9_il)
   have A_ix_9 := A_ix_8.other W9 (Ne.symm (own_ne_arf E_r0_8 (oW hw 2 rfl) A_ix_8))
   have A_wd_9 := A_wd_8.other W9 (Ne.symm (own_ne_arf E_r0_8 (oW hw 2 rfl) A_wd_8))
   have A_hd_9 := A_hd_8.other W9 (Ne.symm (own_ne_arf E_r0_8 (oW hw 2 rfl) A_hd_8))
   have N9 := Fr.snoc X9 N8 ge_r0
   have Z9 : n0 ≤ h9.size := Nat.le_trans Z8 (Keep.of_wr W9).1
   have F_senders_r0_9 := F_senders_r0_8.same W9
   refine own_go (fun tg k => st9 tg k) ?_
   refine own_go (fun _ k => XS.aloadN X9.here hx rfl (hb hby d9_167) rfl rfl (XS.aconstNull X9.here hx rfl (hb hby d9_168) k)) ?_
   obtain ⟨T10, h10, X10, e10, W10, st10⟩ := putF X9 hx hZ hown (host := "") (Or.inl (oW hw 119 rfl)) Via.refl e9 F_messages_r0_9 E_r0_9 (Or.inl (oW hw 120 rfl)) (oW hw 2 rfl) (ty := (.array .long)) (by decide) rfl rfl (g := (mkF m 169 #[oR r0, oI p1, .val (.long (own_tot (own_tot (0 : Int64) La) Lb)), oS, oR ob, oI 2, oI 2, j77, oU, oU, oU] [.null, (.ref r0)])) rfl rfl (hb hby d9_169)
   have E_r0_10 := E_r0_9.wr W10
   have F_receivers_r0_10 := F_receivers_r0_9.other W10 (Or.inr (own_sn512 hw))
   have F_outboxes_r0_10 := F_outboxes_r0_9.other W10 (Or.inr (own_sn513 hw))
   have F_recipients_r0_10 := F_recipients_r0_9.other W10 (Or.inr (own_sn514 hw))
   have F_delivered_r0_10 := F_delivered_r0_9.other W10 (Or.inr (own_sn515 hw))
   have F_senders_r0_10 := F_senders_r0_9.other W10 (Or.inr (own_sn516 hw))
   have F_first_r0_10 := F_first_r0_9.other W10 (Or.inr (own_sn517 hw))
   have F_end_r0_10 := F_end_r0_9.other W10 (Or.inr (own_sn518 hw))
   have O_ob_10 := O_ob_9.other W10 (Ne.symm (own_ne_oa E_r0_9 (oW hw 2 rfl) O_ob_9))
   have B_0_10 := B_0_9.other W10 nb_r0_0
   have B_1_10 := B_1_9.other W10 nb_r0_1
   have E_rv_10 := E_rv_9.wr W10
   have u10_rv := (ne_exa E_rv_9 E_r0_9 (by decide))
   have F_words_rv_10 := F_words_rv_9.other W10 (Or.inl u10_rv)
   have F_held_rv_10 := F_held_rv_9.other W10 (Or.inl u10_rv)
   have F_blocks_rv_10 := F_blocks_rv_9.other W10 (Or.inl u10_rv)
   have F_sorted_rv_10 := F_sorted_rv_9.other W10 (Or.inl u10_rv)
   have E_il_10 := E_il_9.wr W10
   have u10_il := (ne_exa E_il_9 E_r0_9 (by decide))
   have F_indices_il_10 := F_indices_il_9.other W10 (Or.inl u10_il)
   have F_size_il_10 := F_size_il_9.other W10 (Or.inl u10_il)
   have A_ix_10 := A_ix_9.other W10 (Ne.symm (own_ne_arf E_r0_9 (oW hw 2 rfl) A_ix_9))
   have A_wd_10 := A_wd_9.other W10 (Ne.symm (own_ne_arf E_r0_9 (oW hw 2 rfl) A_wd_9))
   have A_hd_10 := A_hd_9.other W10 (Ne.symm (own_ne_arf E_r0_9 (oW hw 2 rfl) A_hd_9))
   have N10 := Fr.snoc X10 N9 ge_r0
   have Z10 : n0 ≤ h10.size := Nat.le_trans Z9 (Keep.of_wr W10).1
   have F_messages_r0_10 := F_messages_r0_9.same W10
   refine own_go (fun tg k => st10 tg k) ?_
   refine own_go (fun _ k => XS.lloadN X10.here hx rfl (hb hby d9_172) rfl (XS.lconst X10.here hx rfl (hb hby d9_173) (XS.lcmp X10.here hx rfl (hb hby d9_174) rfl k))) ?_
   show oF (T10.setTop (mkF m 175 #[oR r0, oI p1, .val (.long (own_tot (own_tot (0 : Int64) La) Lb)), oS, oR ob, oI 2, oI 2, j77, oU, oU, oU] [(.int (lcmpW (own_tot (own_tot (0 : Int64) La) Lb) (0 : Int64)))]))
   have hc175 : (own_tot (own_tot (0 : Int64) La) Lb) = (0 : Int64) := (own_tot0 hz)
   refine own_go (fun _ k => XS.ifNo X10.here hx rfl (hb hby d9_175) rfl ((if0 _ _).trans (teq ((lw_eq _ _).mpr hc175)).2) k) ?_
   show oF (T10.setTop (mkF m 178 #[oR r0, oI p1, .val (.long (own_tot (own_tot (0 : Int64) La) Lb)), oS, oR ob, oI 2, oI 2, j77, oU, oU, oU] []))
   refine own_go (fun _ k => XS.iconst X10.here hx rfl (hb hby d9_178) k) ?_
   refine own_ret X10 hx hlk Bd.returns rfl (Or.inl ⟨rfl, by simp, _, rfl⟩) (hb hby d9_179) (Nat.le_of_ble_eq_true rfl) (Nat.le_of_ble_eq_true rfl) ?_
   rw [e10]
   refine ⟨((own_tot (own_tot (0 : Int64) La) Lb).toInt32), .null, .null, ?_, N10, (by have q : s.heap.size ≤ T10.heap.size := X10.same.2.1; rw [hh, e10] at q; exact q), E_r0_10, ?_, ?_, ?_, ?_, ?_, ?_, ?_, ?_, ?_, ?_, ?_, E_rv_10, ?_, ?_, ?_, ?_, E_il_10, ?_, ?_, ?_, ?_, ?_⟩
   · rfl
   · (exact F_receivers_r0_10)
   · (exact F_outboxes_r0_10)
   · (exact F_recipients_r0_10)
   · (exact F_delivered_r0_10)
   · (exact F_senders_r0_10)
   · (exact F_messages_r0_10)
   · (exact F_first_r0_10)
   · (exact F_end_r0_10)
   · (exact O_ob_10)
   · ( have q := B_0_10; rw [(List.append_eq_nil_iff.mp hz).1] at q; exact q)
   · ( have q := B_1_10; rw [(List.append_eq_nil_iff.mp hz).2] at q; exact q)
   · (exact F_words_rv_10)
   · (exact F_held_rv_10)
   · (exact F_blocks_rv_10)
   · (exact F_sorted_rv_10)
   · (exact F_indices_il_10)
   · (exact F_size_il_10)
   · (exact A_wd_10)
   · (exact A_hd_10)
   · (exact A_ix_10)
  obtain ⟨hl11, ⟨hv11, hD11, hL11⟩ | ⟨xa11, xb11, xc11, xd11, q111, gg11, q311, hv11, hD11, hB11, hg11⟩⟩ := id B_1_6L
  · refine own_vr hv11 ?_
    show oF (T6L.setTop (mkF m 103 #[oR r0, oI p1, .val (.long (own_tot (0 : Int64) La)), oS, oR ob, oI 2, oI 1, j76, oU, oU, oU] [.null]))
    refine own_go (fun _ k => XS.astoreS X6L.here hx rfl (hb hby d9_103) rfl rfl rfl rfl hj76 (XS.lloadN X6L.here hx rfl (hb hby d9_105) rfl (XS.aload X6L.here hx rfl (hb hby d9_106) rfl rfl (XS.ifnonnullNo X6L.here hx rfl (hb hby d9_108) rfl (XS.lconst X6L.here hx rfl (hb hby d9_111) (XS.goto X6L.here hx rfl (pc0 := 112) (pc' := 121) rfl (hb hby d9_112) (by decide) (by decide) (XS.ladd X6L.here hx rfl (hb hby d9_121) rfl (XS.lstoreN X6L.here hx rfl (hb hby d9_122) rfl (l' := #[oR r0, oI p1, .val (.long ((own_tot (0 : Int64) La) + (0 : Int64))), oS, oR ob, oI 2, oI 1, .val .null, oU, oU, oU]) rfl k)))))))) ?_
    have kj := hk7  T6L _ h6L (.val .null) (own_mono X6L (by decide) (by decide)) N6L e6L (One.val rfl) Z6L E_r0_6L F_receivers_r0_6L F_outboxes_r0_6L F_recipients_r0_6L F_delivered_r0_6L F_senders_r0_6L F_messages_r0_6L F_first_r0_6L F_end_r0_6L O_ob_6L B_0_6L B_1_6L E_rv_6L F_words_rv_6L F_held_rv_6L F_blocks_rv_6L F_sorted_rv_6L E_il_6L F_indices_il_6L F_size_il_6L A_ix_6L A_wd_6L A_hd_6L
    rw [show (own_tot (own_tot (0 : Int64) La) Lb) = ((own_tot (0 : Int64) La) + (0 : Int64)) from by rw [hL11]; first | rfl | decide | simp [own_tot]] at kj
    exact kj
  · refine own_vr hv11 ?_
    show oF (T6L.setTop (mkF m 103 #[oR r0, oI p1, .val (.long (own_tot (0 : Int64) La)), oS, oR ob, oI 2, oI 1, j76, oU, oU, oU] [(.ref xa11)]))
    obtain ⟨⟨ge_xa11, ge_xb11, ge_xc11, ge_xd11, ne_xb11_xc11⟩, E_xa11_o, F_size_xa11_o, F_senders_xa11_o, F_receivers_xa11_o, F_messages_xa11_o, A_xb11_o, A_xc11_o, A_xd11_o⟩ := hB11
    refine own_go (fun _ k => XS.astoreS X6L.here hx rfl (hb hby d9_103) rfl rfl rfl rfl hj76 (XS.lloadN X6L.here hx rfl (hb hby d9_105) rfl (XS.aload X6L.here hx rfl (hb hby d9_106) rfl rfl (XS.ifnonnullYes X6L.here hx rfl (pc0 := 108) (pc' := 115) rfl (hb hby d9_108) rfl (by decide) (by decide) (XS.aload X6L.here hx rfl (hb hby d9_115) rfl rfl k))))) ?_
    refine own_go (fun tg k => own_getFR X6L hx hZ hown (oW hw 113 rfl) e6L F_size_xa11_o (g := (mkF m 117 #[oR r0, oI p1, .val (.long (own_tot (0 : Int64) La)), oS, oR ob, oI 2, oI 1, oR xa11, oU, oU, oU] [(.ref xa11), (.long (own_tot (0 : Int64) La))])) rfl rfl (hb hby d9_117) tg k) ?_
    refine own_go (fun _ k => XS.i2l X6L.here hx rfl (hb hby d9_120) rfl k) ?_
    show oF (T6L.setTop (mkF m 121 #[oR r0, oI p1, .val (.long (own_tot (0 : Int64) La)), oS, oR ob, oI 2, oI 1, oR xa11, oU, oU, oU] [(.long ((Int32.ofNat Lb.length).toInt64)), (.long (own_tot (0 : Int64) La))]))
    refine own_go (fun _ k => XS.ladd X6L.here hx rfl (hb hby d9_121) rfl (XS.lstoreN X6L.here hx rfl (hb hby d9_122) rfl (l' := #[oR r0, oI p1, .val (.long ((own_tot (0 : Int64) La) + ((Int32.ofNat Lb.length).toInt64))), oS, oR ob, oI 2, oI 1, oR xa11, oU, oU, oU]) rfl k)) ?_
    exact hk7  T6L _ h6L (oR xa11) (own_mono X6L (by decide) (by decide)) N6L e6L (One.val rfl) Z6L E_r0_6L F_receivers_r0_6L F_outboxes_r0_6L F_recipients_r0_6L F_delivered_r0_6L F_senders_r0_6L F_messages_r0_6L F_first_r0_6L F_end_r0_6L O_ob_6L B_0_6L B_1_6L E_rv_6L F_words_rv_6L F_held_rv_6L F_blocks_rv_6L F_sorted_rv_6L E_il_6L F_indices_il_6L F_size_il_6L A_ix_6L A_wd_6L A_hd_6L
 obtain ⟨hl12, ⟨hv12, hD12, hL12⟩ | ⟨xa12, xb12, xc12, xd12, q112, gg12, q312, hv12, hD12, hB12, hg12⟩⟩ := id B_0_4
 · refine own_vr hv12 ?_
   show oF (T5.setTop (mkF m 103 #[oR r0, oI p1, .val (.long (0 : Int64)), oS, oR ob, oI 2, oI 0, oU, oU, oU, oU] [.null]))
   refine own_go (fun _ k => XS.astore X5.here hx rfl (hb hby d9_103) rfl rfl (l' := #[oR r0, oI p1, .val (.long (0 : Int64)), oS, oR ob, oI 2, oI 0, .val .null, oU, oU, oU]) rfl (XS.lloadN X5.here hx rfl (hb hby d9_105) rfl (XS.aload X5.here hx rfl (hb hby d9_106) rfl rfl (XS.ifnonnullNo X5.here hx rfl (hb hby d9_108) rfl (XS.lconst X5.here hx rfl (hb hby d9_111) (XS.goto X5.here hx rfl (pc0 := 112) (pc' := 121) rfl (hb hby d9_112) (by decide) (by decide) (XS.ladd X5.here hx rfl (hb hby d9_121) rfl k))))))) ?_
   show oF (T5.setTop (mkF m 122 #[oR r0, oI p1, .val (.long (0 : Int64)), oS, oR ob, oI 2, oI 0, .val .null, oU, oU, oU] [(.long (0 : Int64))]))
   refine own_go (fun _ k => XS.lstoreN X5.here hx rfl (hb hby d9_122) rfl (l' := #[oR r0, oI p1, .val (.long (0 : Int64)), oS, oR ob, oI 2, oI 0, .val .null, oU, oU, oU]) rfl k) ?_
   have kj := hk6  T5 _ T4.heap (.val .null) (own_mono X5 (by decide) (by decide)) N4 e5 (One.val rfl) Z4 E_r0_4 F_receivers_r0_4 F_outboxes_r0_4 F_recipients_r0_4 F_delivered_r0_4 F_senders_r0_4 F_messages_r0_4 F_first_r0_4 F_end_r0_4 O_ob_4 B_0_4 B_1_4 E_rv_4 F_words_rv_4 F_held_rv_4 F_blocks_rv_4 F_sorted_rv_4 E_il_4 F_indices_il_4 F_size_il_4 A_ix_4 A_wd_4 A_hd_4
   rw [show (own_tot (0 : Int64) La) = (0 : Int64) from by rw [hL12]; first | rfl | decide | simp [own_tot]] at kj
   exact kj
 · refine own_vr hv12 ?_
   show oF (T5.setTop (mkF m 103 #[oR r0, oI p1, .val (.long (0 : Int64)), oS, oR ob, oI 2, oI 0, oU, oU, oU, oU] [(.ref xa12)]))
   obtain ⟨⟨ge_xa12, ge_xb12, ge_xc12, ge_xd12, ne_xb12_xc12⟩, E_xa12_o, F_size_xa12_o, F_senders_xa12_o, F_receivers_xa12_o, F_messages_xa12_o, A_xb12_o, A_xc12_o, A_xd12_o⟩ := hB12
   refine own_go (fun _ k => XS.astore X5.here hx rfl (hb hby d9_103) rfl rfl (l' := #[oR r0, oI p1, .val (.long (0 : Int64)), oS, oR ob, oI 2, oI 0, oR xa12, oU, oU, oU]) rfl (XS.lloadN X5.here hx rfl (hb hby d9_105) rfl (XS.aload X5.here hx rfl (hb hby d9_106) rfl rfl (XS.ifnonnullYes X5.here hx rfl (pc0 := 108) (pc' := 115) rfl (hb hby d9_108) rfl (by decide) (by decide) (XS.aload X5.here hx rfl (hb hby d9_115) rfl rfl k))))) ?_
   refine own_go (fun tg k => own_getFR X5 hx hZ hown (oW hw 113 rfl) e5 F_size_xa12_o (g := (mkF m 117 #[oR r0, oI p1, .val (.long (0 : Int64)), oS, oR ob, oI 2, oI 0, oR xa12, oU, oU, oU] [(.ref xa12), (.long (0 : Int64))])) rfl rfl (hb hby d9_117) tg k) ?_
   refine own_go (fun _ k => XS.i2l X5.here hx rfl (hb hby d9_120) rfl k) ?_
   show oF (T5.setTop (mkF m 121 #[oR r0, oI p1, .val (.long (0 : Int64)), oS, oR ob, oI 2, oI 0, oR xa12, oU, oU, oU] [(.long ((Int32.ofNat La.length).toInt64)), (.long (0 : Int64))]))
   refine own_go (fun _ k => XS.ladd X5.here hx rfl (hb hby d9_121) rfl (XS.lstoreN X5.here hx rfl (hb hby d9_122) rfl (l' := #[oR r0, oI p1, .val (.long ((0 : Int64) + ((Int32.ofNat La.length).toInt64))), oS, oR ob, oI 2, oI 0, oR xa12, oU, oU, oU]) rfl k)) ?_
   exact hk6  T5 _ T4.heap (oR xa12) (own_mono X5 (by decide) (by decide)) N4 e5 (One.val rfl) Z4 E_r0_4 F_receivers_r0_4 F_outboxes_r0_4 F_recipients_r0_4 F_delivered_r0_4 F_senders_r0_4 F_messages_r0_4 F_first_r0_4 F_end_r0_4 O_ob_4 B_0_4 B_1_4 E_rv_4 F_words_rv_4 F_held_rv_4 F_blocks_rv_4 F_sorted_rv_4 E_il_4 F_indices_il_4 F_size_il_4 A_ix_4 A_wd_4 A_hd_4
theorem own_sn760 {Z : State} {a0 : Array Value} (hw : oH Z a0) : oO Z oC0 "receivers" "I" ≠ oO Z oC0 "first" "[I" := slot_ne (Or.inr (oW hw 19 rfl)) (Or.inl (oW hw 122 rfl)) (by decide) (t := .int) (t' := (.array .int)) (by decide) (by decide)
theorem own_sn761 {Z : State} {a0 : Array Value} (hw : oH Z a0) : oO Z oC0 "outboxes" oC4 ≠ oO Z oC0 "first" "[I" := slot_ne (Or.inr (oW hw 25 rfl)) (Or.inl (oW hw 122 rfl)) (by decide) (t := (.array (.object oC2))) (t' := (.array .int)) (by decide) (by decide)
theorem own_sn762 {Z : State} {a0 : Array Value} (hw : oH Z a0) : oO Z oC0 "recipients" oC6 ≠ oO Z oC0 "first" "[I" := slot_ne (Or.inr (oW hw 58 rfl)) (Or.inl (oW hw 122 rfl)) (by decide) (t := (.object oC1)) (t' := (.array .int)) (by decide) (by decide)
theorem own_sn763 {Z : State} {a0 : Array Value} (hw : oH Z a0) : oO Z oC0 "delivered" "I" ≠ oO Z oC0 "first" "[I" := slot_ne (Or.inl (oW hw 116 rfl)) (Or.inl (oW hw 122 rfl)) (by decide) (t := .int) (t' := (.array .int)) (by decide) (by decide)
theorem own_sn764 {Z : State} {a0 : Array Value} (hw : oH Z a0) : oO Z oC0 "senders" "[I" ≠ oO Z oC0 "first" "[I" := slot_ne (Or.inl (oW hw 118 rfl)) (Or.inl (oW hw 122 rfl)) (by decide) (t := (.array .int)) (t' := (.array .int)) (by decide) (by decide)
theorem own_sn765 {Z : State} {a0 : Array Value} (hw : oH Z a0) : oO Z oC0 "messages" "[J" ≠ oO Z oC0 "first" "[I" := slot_ne (Or.inl (oW hw 120 rfl)) (Or.inl (oW hw 122 rfl)) (by decide) (t := (.array .long)) (t' := (.array .int)) (by decide) (by decide)
theorem own_sn766 {Z : State} {a0 : Array Value} (hw : oH Z a0) : oO Z oC0 "end" "[I" ≠ oO Z oC0 "first" "[I" := slot_ne (Or.inl (oW hw 124 rfl)) (Or.inl (oW hw 122 rfl)) (by decide) (t := (.array .int)) (t' := (.array .int)) (by decide) (by decide)
theorem own_sn767 {Z : State} {a0 : Array Value} (hw : oH Z a0) : oO Z oC0 "receivers" "I" ≠ oO Z oC0 "end" "[I" := slot_ne (Or.inr (oW hw 19 rfl)) (Or.inl (oW hw 124 rfl)) (by decide) (t := .int) (t' := (.array .int)) (by decide) (by decide)
theorem own_sn768 {Z : State} {a0 : Array Value} (hw : oH Z a0) : oO Z oC0 "outboxes" oC4 ≠ oO Z oC0 "end" "[I" := slot_ne (Or.inr (oW hw 25 rfl)) (Or.inl (oW hw 124 rfl)) (by decide) (t := (.array (.object oC2))) (t' := (.array .int)) (by decide) (by decide)
theorem own_sn769 {Z : State} {a0 : Array Value} (hw : oH Z a0) : oO Z oC0 "recipients" oC6 ≠ oO Z oC0 "end" "[I" := slot_ne (Or.inr (oW hw 58 rfl)) (Or.inl (oW hw 124 rfl)) (by decide) (t := (.object oC1)) (t' := (.array .int)) (by decide) (by decide)
theorem own_sn770 {Z : State} {a0 : Array Value} (hw : oH Z a0) : oO Z oC0 "delivered" "I" ≠ oO Z oC0 "end" "[I" := slot_ne (Or.inl (oW hw 116 rfl)) (Or.inl (oW hw 124 rfl)) (by decide) (t := .int) (t' := (.array .int)) (by decide) (by decide)
theorem own_sn771 {Z : State} {a0 : Array Value} (hw : oH Z a0) : oO Z oC0 "senders" "[I" ≠ oO Z oC0 "end" "[I" := slot_ne (Or.inl (oW hw 118 rfl)) (Or.inl (oW hw 124 rfl)) (by decide) (t := (.array .int)) (t' := (.array .int)) (by decide) (by decide)
theorem own_sn772 {Z : State} {a0 : Array Value} (hw : oH Z a0) : oO Z oC0 "messages" "[J" ≠ oO Z oC0 "end" "[I" := slot_ne (Or.inl (oW hw 120 rfl)) (Or.inl (oW hw 124 rfl)) (by decide) (t := (.array .long)) (t' := (.array .int)) (by decide) (by decide)
theorem own_sn773 {Z : State} {a0 : Array Value} (hw : oH Z a0) : oO Z oC0 "first" "[I" ≠ oO Z oC0 "end" "[I" := slot_ne (Or.inl (oW hw 122 rfl)) (Or.inl (oW hw 124 rfl)) (by decide) (t := (.array .int)) (t' := (.array .int)) (by decide) (by decide)
theorem d9_180 : oQ oD24 180 (.aload_n 0) 1 := by decide +kernel
theorem d9_181 : oQ oD24 181 (.getfield 47) 3 := by decide +kernel
theorem d9_184 : oQ oD24 184 (.ifnonnull 23) 3 := by decide +kernel
theorem d9_187 : oQ oD24 187 (.aload_n 0) 1 := by decide +kernel
theorem d9_188 : oQ oD24 188 (.aload_n 0) 1 := by decide +kernel
theorem d9_189 : oQ oD24 189 (.getfield 9) 3 := by decide +kernel
theorem d9_192 : oQ oD24 192 (.newarray .int) 2 := by decide +kernel
theorem d9_194 : oQ oD24 194 (.putfield 47) 3 := by decide +kernel
theorem d9_197 : oQ oD24 197 (.aload_n 0) 1 := by decide +kernel
theorem d9_198 : oQ oD24 198 (.aload_n 0) 1 := by decide +kernel
theorem d9_199 : oQ oD24 199 (.getfield 9) 3 := by decide +kernel
theorem d9_202 : oQ oD24 202 (.newarray .int) 2 := by decide +kernel
theorem d9_204 : oQ oD24 204 (.putfield 51) 3 := by decide +kernel
def Qrm9f1 (Z : State) (r0 : Addr) (p1 : Int32) (n : Int32) (ob : Addr) (rv : Addr) (dl : Int32) (vS : Value) (vM : Value) (v0 : Value) (v1 : Value) (Da : List Addr) (Db : List Addr) (La : List Int32) (Lb : List Int32) (wd : Addr) (hd : Addr) (il : Addr) (ix : Addr) (fi : Nat → Int32) (h0 : Heap) (n0 : Nat) (v : Option Value) (h : Heap) (L : List Loc) : Prop := ∃ dx : Int32, ∃ vSx : Value, ∃ vMx : Value, ∃ fy : Addr, ∃ ey : Addr, ∃ fwx : Nat → Int64, ∃ gx : Nat → Int32, v = some (.int 1) ∧ Fr n0 L ∧ h0.size ≤ h.size ∧ Exa Z h r0 oC0 ∧ Fld Z h r0 oC0 "receivers" "I" (.int n) ∧ Fld Z h r0 oC0 "outboxes" oC4 (.ref ob) ∧ Fld Z h r0 oC0 "recipients" oC6 (.ref rv) ∧ Fld Z h r0 oC0 "delivered" "I" (.int dx) ∧ Fld Z h r0 oC0 "senders" "[I" vSx ∧ Fld Z h r0 oC0 "messages" "[J" vMx ∧ Fld Z h r0 oC0 "first" "[I" (.ref fy) ∧ Fld Z h r0 oC0 "end" "[I" (.ref ey) ∧ own_Oa Z h ob oC2 v0 v1 ∧ own_Box Z h n0 v0 Da [] ∧ own_Box Z h n0 v1 Db [] ∧ Exa Z h rv oC1 ∧ Fld Z h rv oC1 "words" "[J" (.ref wd) ∧ Fld Z h rv oC1 "held" "[Z" (.ref hd) ∧ Fld Z h rv oC1 "blocks" oC5 (.ref il) ∧ Fld Z h rv oC1 "sorted" "Z" (.int 1) ∧ Exa Z h il oC3 ∧ Fld Z h il oC3 "indices" "[I" (.ref ix) ∧ Fld Z h il oC3 "size" "I" (.int 1) ∧ own_Arf Z h wd .long (16 : Int32) (fun i => .long (fwx i)) ∧ own_Arf Z h hd .boolean (1 : Int32) (fun i => .int ((fun _ => (1 : Int32)) i)) ∧ own_Arf Z h ix .int (16 : Int32) (fun i => .int (gx i)) ∧ own_Arf Z h fy .int n (fun i => .int ((own_FF La Lb) i)) ∧ own_Arf Z h ey .int n (fun i => .int ((own_EE La Lb) i)) ∧ fy ≠ ey ∧ ix ≠ fy ∧ ix ≠ ey ∧ n0 ≤ fy ∧ n0 ≤ ey ∧ fy ∉ Da ∧ fy ∉ Db ∧ ey ∉ Da ∧ ey ∉ Db ∧ gx 0 = 0
set_option maxRecDepth 65536 in
set_option maxHeartbeats 40000000 in
theorem rm9f1 (l : Launch) (Z : State) (a0 : Array Value) (hw : oH Z a0) (ws : List Jvm.Cond) (r0 : Addr) (p1 : Int32) (n : Int32) (ob : Addr) (rv : Addr) (dl : Int32) (vS : Value) (vM : Value) (v0 : Value) (v1 : Value) (Da : List Addr) (Db : List Addr) (La : List Int32) (Lb : List Int32) (wd : Addr) (hd : Addr) (il : Addr) (ix : Addr) (fi : Nat → Int32) (h0 : Heap) (n0 : Nat) (Z0 : n0 ≤ h0.size) (E_r0_0 : Exa Z h0 r0 oC0) (F_receivers_r0_0 : Fld Z h0 r0 oC0 "receivers" "I" (.int n)) (F_outboxes_r0_0 : Fld Z h0 r0 oC0 "outboxes" oC4 (.ref ob)) (F_recipients_r0_0 : Fld Z h0 r0 oC0 "recipients" oC6 (.ref rv)) (F_delivered_r0_0 : Fld Z h0 r0 oC0 "delivered" "I" (.int dl)) (F_senders_r0_0 : Fld Z h0 r0 oC0 "senders" "[I" vS) (F_messages_r0_0 : Fld Z h0 r0 oC0 "messages" "[J" vM) (F_first_r0_0 : Fld Z h0 r0 oC0 "first" "[I" .null) (F_end_r0_0 : Fld Z h0 r0 oC0 "end" "[I" .null) (O_ob_0 : own_Oa Z h0 ob oC2 v0 v1) (B_0_0 : own_Box Z h0 n0 v0 Da La) (B_1_0 : own_Box Z h0 n0 v1 Db Lb) (E_rv_0 : Exa Z h0 rv oC1) (F_words_rv_0 : Fld Z h0 rv oC1 "words" "[J" (.ref wd)) (F_held_rv_0 : Fld Z h0 rv oC1 "held" "[Z" (.ref hd)) (F_blocks_rv_0 : Fld Z h0 rv oC1 "blocks" oC5 (.ref il)) (F_sorted_rv_0 : Fld Z h0 rv oC1 "sorted" "Z" (.int 1)) (E_il_0 : Exa Z h0 il oC3) (F_indices_il_0 : Fld Z h0 il oC3 "indices" "[I" (.ref ix)) (F_size_il_0 : Fld Z h0 il oC3 "size" "I" (.int 0)) (A_ix_0 : own_Arf Z h0 ix .int (16 : Int32) (fun i => .int (fi i))) (A_wd_0 : own_Arf Z h0 wd .long (16 : Int32) (fun i => .long ((own_w0 (0 : Int64)) i))) (A_hd_0 : own_Arf Z h0 hd .boolean (1 : Int32) (fun i => .int ((fun _ => (0 : Int32)) i))) (ge_r0 : n0 ≤ r0) (ge_rv : n0 ≤ rv) (ge_wd : n0 ≤ wd) (ge_hd : n0 ≤ hd) (ge_il : n0 ≤ il) (ge_ix : n0 ≤ ix) (nb_r0_0 : r0 ∉ Da) (nb_r0_1 : r0 ∉ Db) (nb_rv_0 : rv ∉ Da) (nb_rv_1 : rv ∉ Db) (nb_wd_0 : wd ∉ Da) (nb_wd_1 : wd ∉ Db) (nb_hd_0 : hd ∉ Da) (nb_hd_1 : hd ∉ Db) (nb_il_0 : il ∉ Da) (nb_il_1 : il ∉ Db) (nb_ix_0 : ix ∉ Da) (nb_ix_1 : ix ∉ Db) (hdj : ∀ x ∈ Da, x ∉ Db) (hn : own_n14 n) (hl : La.length + Lb.length ≤ 3) (hm : ∀ r ∈ La ++ Lb, own_in r n) (hz : La ++ Lb ≠ []) :
    MetFree l oM24 (head1 (Jvm.Cond.code oM24 prog_18_method_9_code 11 (some .boolean) :: ws) rm9t_room) (fun a U => a = #[(.ref r0), (.int p1)] ∧ Z.Warmed39 U.vm ∧ U.heap = h0) (fun _ _ _ _ _ => True) (fun _ U o U' => ∃ v L, o = .returned v ∧ Qrm9f1 Z r0 p1 n ob rv dl vS vM v0 v1 Da Db La Lb wd hd il ix fi h0 n0 v U'.heap L ∧ FrameEnd U o U' L rm9t_room.cells rm9t_room.slots) := by
 refine MetFree.of_bodySF (plainFor_of_name pn_9) hisR ?_
 intro p e s m args below meth c s₁ Bd hml0 hP hK
 obtain ⟨rfl, hZ, hh⟩ := hP
 have hx := Bd.exec
 have hby := Bd.bytes
 have hml : c.maxLocals = 11 := hml0
 have hown : s.vm.findClass oC0 = some m.cls := findClass_of_methodNamed Bd.named
 have hnm := (name_of_methodNamed Bd.named Bd.method).1
 have hlk : meth.locks = false := BodyLoose.notSynchronized Bd
 have X0 : Stand p l e rm9t_room s m #[(.ref r0), (.int p1)] below meth c s₁ [] 0 0 := Stand.of_body Bd
 have e0 : s₁.heap = h0 := by rw [← hh, Bd.state]; rfl
 have N0 := Fr.nil n0
 show own_Fin p.tables e below s (Qrm9f1 Z r0 p1 n ob rv dl vS vM v0 v1 Da Db La Lb wd hd il ix fi h0 n0) rm9t_room.cells rm9t_room.slots (s₁.setTop (entryFrame m #[(.ref r0), (.int p1)] 11))
 rw [ef_9]
 show oF (s₁.setTop (mkF m 0 #[oR r0, oI p1, oU, oU, oU, oU, oU, oU, oU, oU, oU] []))
 have hdk : ∀ x ∈ Db, x ∉ Da := fun x h1 h0 => hdj x h0 h1
 refine own_go (fun _ k => XS.iconst X0.here hx rfl (hb hby d9_0) (XS.istoreN X0.here hx rfl (hb hby d9_1) rfl (l' := #[oR r0, oI p1, oI 0, oU, oU, oU, oU, oU, oU, oU, oU]) rfl (XS.iloadN X0.here hx rfl (hb hby d9_2) rfl (XS.aloadN X0.here hx rfl (hb hby d9_3) rfl rfl k)))) ?_
 obtain ⟨T1, X1, e1, st1⟩ := getF X0 hx hZ hown (host := "") (Or.inl (oW hw 57 rfl)) Via.refl e0 F_recipients_r0_0 (g := (mkF m 4 #[oR r0, oI p1, oI 0, oU, oU, oU, oU, oU, oU, oU, oU] [(.ref r0), (.int 0)])) rfl rfl (hb hby d9_4)
 refine own_go (fun tg k => st1 tg k) ?_
 obtain ⟨cq2, kq2, q2a, q2b, q2c⟩ := isOf hZ e1 E_rv_0
 obtain ⟨_, _, ⟨T2, L2, k2, n2⟩, -, X2, ⟨Lc2, hQ2, l2, y2, z2⟩, st2⟩ := X1.virtualBack hx (y := oM11) (z := oM11) hown (mvT hZ (oW hw 91 rfl)) (mvT hZ (oW hw 92 rfl)) (notFace_of_selects (args := #[]) (mvT hZ (oW hw 94 rfl))) (mvT hZ (oW hw 94 rfl)) (mvT hZ (oW hw 93 rfl)) (by decide) (backOf (W := 1) (rm10 l Z a0 hw [] rv il (0 : Int32) h0 n0 Z0 F_blocks_rv_0 E_il_0 F_size_il_0) hZ (oW hw 95 rfl) (oW hw 28 rfl) (by decide) (by decide)) q2a q2c (g := (mkF m 7 #[oR r0, oI p1, oI 0, oU, oU, oU, oU, oU, oU, oU, oU] [(.ref rv), (.int 0)])) rfl (by rw [hml]; rfl) (Steps.refl _) (argsL := []) (rest := [(.int 0)]) (lenOf own_pd194 rfl) rfl (by show 2 * 0 + _ ≤ _; exact Nat.le_of_eq rfl) (hb hby d9_7) (fun _ _ => ⟨rfl, e1, (by decide : 0 + 0 ≤ _), (by decide : 0 + 0 ≤ _)⟩)
 dsimp only [Pt.U, Pt.locs, Pt.cells, Pt.slots] at X2 l2 y2 z2 st2 hQ2
 replace y2 : 0 = k2 := y2.symm
 replace z2 : 0 = n2 := z2.symm
 subst y2 z2
 obtain ⟨rfl, N2q, e2⟩ := hQ2
 have N2 : Fr n0 L2 := by rw [l2]; exact Fr.app N0 N2q
 refine own_go (fun tg k => st2.trans k) ?_
 show oF (T2.setTop (mkF m 10 #[oR r0, oI p1, oI 0, oU, oU, oU, oU, oU, oU, oU, oU] [(.int 0), (.int 0)]))
 refine own_go (fun _ k => XS.icmpYes X2.here hx rfl (pc0 := 10) (pc' := 68) rfl (hb hby d9_10) rfl (flt (by decide)).2.1 (by decide) (by decide) k) ?_
 show oF (T2.setTop (mkF m 68 #[oR r0, oI p1, oI 0, oU, oU, oU, oU, oU, oU, oU, oU] []))
 refine own_go (fun _ k => XS.aloadN X2.here hx rfl (hb hby d9_68) rfl rfl k) ?_
 obtain ⟨T3, X3, e3, st3⟩ := getF X2 hx hZ hown (host := "") (Or.inl (oW hw 57 rfl)) Via.refl e2 F_recipients_r0_0 (g := (mkF m 69 #[oR r0, oI p1, oI 0, oU, oU, oU, oU, oU, oU, oU, oU] [(.ref r0)])) rfl rfl (hb hby d9_69)
 refine own_go (fun tg k => st3 tg k) ?_
 obtain ⟨cq4, kq4, q4a, q4b, q4c⟩ := isOf hZ e3 E_rv_0
 obtain ⟨_, _, ⟨T4, L4, k4, n4⟩, -, X4, ⟨Lc4, hQ4, l4, y4, z4⟩, st4⟩ := X3.virtualBack hx (y := oM17) (z := oM17) hown (mvT hZ (oW hw 103 rfl)) (mvT hZ (oW hw 104 rfl)) (notFace_of_selects (args := #[]) (mvT hZ (oW hw 106 rfl))) (mvT hZ (oW hw 106 rfl)) (mvT hZ (oW hw 105 rfl)) (by decide) (backOf (W := 0) (rm12z l Z a0 hw [] rv wd hd il ix fi h0 n0 Z0 E_rv_0 F_words_rv_0 F_held_rv_0 F_blocks_rv_0 F_sorted_rv_0 E_il_0 F_indices_il_0 F_size_il_0 A_ix_0 A_wd_0 A_hd_0 ge_rv ge_wd ge_hd ge_il ge_ix) hZ (oW hw 107 rfl) (oW hw 28 rfl) (by decide) (by decide)) q4a q4c (g := (mkF m 72 #[oR r0, oI p1, oI 0, oU, oU, oU, oU, oU, oU, oU, oU] [(.ref rv)])) rfl (by rw [hml]; rfl) (Steps.refl _) (argsL := []) (rest := []) (lenOf own_pd158 rfl) rfl (by show 2 * 0 + _ ≤ _; exact Nat.le_of_eq rfl) (hb hby d9_72) (fun _ _ => ⟨rfl, e3, (by decide : 0 + 0 ≤ _), (by decide : 0 + 0 ≤ _)⟩)
 dsimp only [Pt.U, Pt.locs, Pt.cells, Pt.slots] at X4 l4 y4 z4 st4 hQ4
 replace y4 : 0 = k4 := y4.symm
 replace z4 : 0 = n4 := z4.symm
 subst y4 z4
 obtain ⟨rfl, N4q, Kq4, E_rv_4, F_words_rv_4, F_held_rv_4, F_blocks_rv_4, F_sorted_rv_4, E_il_4, F_indices_il_4, F_size_il_4, A_wd_4, A_hd_4⟩ := hQ4
 have N4 : Fr n0 L4 := by rw [l4]; exact Fr.app N2 N4q
 have E_r0_4 := E_r0_0.keep Kq4
 have u4_r0 := (ninS (ne_exa E_r0_0 E_rv_0 (by decide)) (ninS (own_ne_arf E_r0_0 (oW hw 2 rfl) A_wd_0) (ninS (own_ne_arf E_r0_0 (oW hw 2 rfl) A_hd_0) (ninS (ne_exa E_r0_0 E_il_0 (by decide)) nin0))))
 have F_receivers_r0_4 := F_receivers_r0_0.keep Kq4 u4_r0
 have F_outboxes_r0_4 := F_outboxes_r0_0.keep Kq4 u4_r0
 have F_recipients_r0_4 := F_recipients_r0_0.keep Kq4 u4_r0
 have F_delivered_r0_4 := F_delivered_r0_0.keep Kq4 u4_r0
 have F_senders_r0_4 := F_senders_r0_0.keep Kq4 u4_r0
 have F_messages_r0_4 := F_messages_r0_0.keep Kq4 u4_r0
 have F_first_r0_4 := F_first_r0_0.keep Kq4 u4_r0
 have F_end_r0_4 := F_end_r0_0.keep Kq4 u4_r0
 have O_ob_4 := O_ob_0.keep Kq4 (ninS (Ne.symm (own_ne_oa E_rv_0 (oW hw 27 rfl) O_ob_0)) (ninS (Ne.symm (own_ne_oarf A_wd_0 O_ob_0 (by decide))) (ninS (Ne.symm (own_ne_oarf A_hd_0 O_ob_0 (by decide))) (ninS (Ne.symm (own_ne_oa E_il_0 (oW hw 38 rfl) O_ob_0)) nin0))))
 have B_0_4 := B_0_0.keep Kq4 (allS nb_rv_0 (allS nb_wd_0 (allS nb_hd_0 (allS nb_il_0 all0))))
 have B_1_4 := B_1_0.keep Kq4 (allS nb_rv_1 (allS nb_wd_1 (allS nb_hd_1 (allS nb_il_1 all0))))
 have A_ix_4 := A_ix_0.keep Kq4 (ninS (Ne.symm (own_ne_arf E_rv_0 (oW hw 27 rfl) A_ix_0)) (ninS (own_ne_ty A_ix_0 A_wd_0 (by decide)) (ninS (own_ne_ty A_ix_0 A_hd_0 (by decide)) (ninS (Ne.symm (own_ne_arf E_il_0 (oW hw 38 rfl) A_ix_0)) nin0))))
 have Z4 : n0 ≤ T4.heap.size := Nat.le_trans Z0 Kq4.1
 refine own_go (fun tg k => st4.trans k) ?_
 show oF (T4.setTop (mkF m 75 #[oR r0, oI p1, oI 0, oU, oU, oU, oU, oU, oU, oU, oU] []))
 refine own_go (fun _ k => XS.lconst X4.here hx rfl (hb hby d9_75) (XS.lstoreN X4.here hx rfl (hb hby d9_76) rfl (l' := #[oR r0, oI p1, .val (.long (0 : Int64)), oS, oU, oU, oU, oU, oU, oU, oU]) rfl (XS.aloadN X4.here hx rfl (hb hby d9_77) rfl rfl k))) ?_
 obtain ⟨T5, X5, e5, st5⟩ := getF X4 hx hZ hown (host := "") (Or.inl (oW hw 24 rfl)) Via.refl rfl F_outboxes_r0_4 (g := (mkF m 78 #[oR r0, oI p1, .val (.long (0 : Int64)), oS, oU, oU, oU, oU, oU, oU, oU] [(.ref r0)])) rfl rfl (hb hby d9_78)
 refine own_go (fun tg k => st5 tg k) ?_
 refine own_go (fun _ k => XS.astore X5.here hx rfl (hb hby d9_81) rfl rfl (l' := #[oR r0, oI p1, .val (.long (0 : Int64)), oS, oR ob, oU, oU, oU, oU, oU, oU]) rfl (XS.aload X5.here hx rfl (hb hby d9_83) rfl rfl k)) ?_
 refine own_go (fun tg k => own_oalen X5 hx hZ e5 O_ob_4 (g := (mkF m 85 #[oR r0, oI p1, .val (.long (0 : Int64)), oS, oR ob, oU, oU, oU, oU, oU, oU] [(.ref ob)])) rfl rfl (hb hby d9_85) tg k) ?_
 refine own_go (fun _ k => XS.istore X5.here hx rfl (hb hby d9_86) rfl (l' := #[oR r0, oI p1, .val (.long (0 : Int64)), oS, oR ob, oI 2, oU, oU, oU, oU, oU]) rfl (XS.iconst X5.here hx rfl (hb hby d9_88) (XS.istore X5.here hx rfl (hb hby d9_89) rfl (l' := #[oR r0, oI p1, .val (.long (0 : Int64)), oS, oR ob, oI 2, oI 0, oU, oU, oU, oU]) rfl (XS.iload X5.here hx rfl (hb hby d9_91) rfl (XS.iload X5.here hx rfl (hb hby d9_93) rfl (XS.icmpNo X5.here hx rfl (hb hby d9_95) rfl (tlt (by decide)).2.1 (XS.aload X5.here hx rfl (hb hby d9_98) rfl rfl (XS.iload X5.here hx rfl (hb hby d9_100) rfl k)))))))) ?_
 refine own_go (fun tg k => own_oald X5 hx hZ e5 O_ob_4 (v := v0) (Or.inl ⟨rfl, rfl⟩) (g := (mkF m 102 #[oR r0, oI p1, .val (.long (0 : Int64)), oS, oR ob, oI 2, oI 0, oU, oU, oU, oU] [(.int 0), (.ref ob)])) rfl rfl (hb hby d9_102) tg k) ?_
 show oF (T5.setTop (mkF m 103 #[oR r0, oI p1, .val (.long (0 : Int64)), oS, oR ob, oI 2, oI 0, oU, oU, oU, oU] [v0]))
 have hk6 : ∀ (T6L : State) (L6L : List Loc) (h6L : Heap) (j76 : Slot), Stand p l e rm9t_room s m #[(.ref r0), (.int p1)] below meth c T6L L6L 0 0 → Fr n0 L6L → T6L.heap = h6L → One j76 → n0 ≤ h6L.size → Exa Z h6L r0 oC0 → Fld Z h6L r0 oC0 "receivers" "I" (.int n) → Fld Z h6L r0 oC0 "outboxes" oC4 (.ref ob) → Fld Z h6L r0 oC0 "recipients" oC6 (.ref rv) → Fld Z h6L r0 oC0 "delivered" "I" (.int dl) → Fld Z h6L r0 oC0 "senders" "[I" vS → Fld Z h6L r0 oC0 "messages" "[J" vM → Fld Z h6L r0 oC0 "first" "[I" .null → Fld Z h6L r0 oC0 "end" "[I" .null → own_Oa Z h6L ob oC2 v0 v1 → own_Box Z h6L n0 v0 Da La → own_Box Z h6L n0 v1 Db Lb → Exa Z h6L rv oC1 → Fld Z h6L rv oC1 "words" "[J" (.ref wd) → Fld Z h6L rv oC1 "held" "[Z" (.ref hd) → Fld Z h6L rv oC1 "blocks" oC5 (.ref il) → Fld Z h6L rv oC1 "sorted" "Z" (.int 1) → Exa Z h6L il oC3 → Fld Z h6L il oC3 "indices" "[I" (.ref ix) → Fld Z h6L il oC3 "size" "I" (.int 0) → own_Arf Z h6L ix .int (16 : Int32) (fun i => .int (fi i)) → own_Arf Z h6L wd .long (16 : Int32) (fun i => .long ((own_w0 (0 : Int64)) i)) → own_Arf Z h6L hd .boolean (1 : Int32) (fun i => .int ((fun _ => (0 : Int32)) i)) → own_Fin p.tables e below s (Qrm9f1 Z r0 p1 n ob rv dl vS vM v0 v1 Da Db La Lb wd hd il ix fi h0 n0) rm9t_room.cells rm9t_room.slots (T6L.setTop (mkF m 123 #[oR r0, oI p1, .val (.long (own_tot (0 : Int64) La)), oS, oR ob, oI 2, oI 0, j76, oU, oU, oU] [])) := by
  intro T6L L6L h6L j76 X6L N6L e6L hj76 Z6L E_r0_6L F_receivers_r0_6L F_outboxes_r0_6L F_recipients_r0_6L F_delivered_r0_6L F_senders_r0_6L F_messages_r0_6L F_first_r0_6L F_end_r0_6L O_ob_6L B_0_6L B_1_6L E_rv_6L F_words_rv_6L F_held_rv_6L F_blocks_rv_6L F_sorted_rv_6L E_il_6L F_indices_il_6L F_size_il_6L A_ix_6L A_wd_6L A_hd_6L
  show oF (T6L.setTop (mkF m 123 #[oR r0, oI p1, .val (.long (own_tot (0 : Int64) La)), oS, oR ob, oI 2, oI 0, j76, oU, oU, oU] []))
  refine own_go (fun _ k => XS.iinc X6L.here hx rfl (hb hby d9_123) rfl (l' := #[oR r0, oI p1, .val (.long (own_tot (0 : Int64) La)), oS, oR ob, oI 2, oI 1, j76, oU, oU, oU]) rfl k) ?_
  show oF (T6L.setTop (mkF m 126 #[oR r0, oI p1, .val (.long (own_tot (0 : Int64) La)), oS, oR ob, oI 2, oI 1, j76, oU, oU, oU] []))
  refine own_go (fun _ k => XS.goto X6L.here hx rfl (pc0 := 126) (pc' := 91) rfl (hb hby d9_126) (by decide) (by decide) (XS.iload X6L.here hx rfl (hb hby d9_91) rfl (XS.iload X6L.here hx rfl (hb hby d9_93) rfl (XS.icmpNo X6L.here hx rfl (hb hby d9_95) rfl (tlt (by decide)).2.1 (XS.aload X6L.here hx rfl (hb hby d9_98) rfl rfl (XS.iload X6L.here hx rfl (hb hby d9_100) rfl k)))))) ?_
  refine own_go (fun tg k => own_oald X6L hx hZ e6L O_ob_6L (v := v1) (Or.inr ⟨rfl, rfl⟩) (g := (mkF m 102 #[oR r0, oI p1, .val (.long (own_tot (0 : Int64) La)), oS, oR ob, oI 2, oI 1, j76, oU, oU, oU] [(.int 1), (.ref ob)])) rfl rfl (hb hby d9_102) tg k) ?_
  show oF (T6L.setTop (mkF m 103 #[oR r0, oI p1, .val (.long (own_tot (0 : Int64) La)), oS, oR ob, oI 2, oI 1, j76, oU, oU, oU] [v1]))
  have hk7 : ∀ (T7L : State) (L7L : List Loc) (h7L : Heap) (j77 : Slot), Stand p l e rm9t_room s m #[(.ref r0), (.int p1)] below meth c T7L L7L 0 0 → Fr n0 L7L → T7L.heap = h7L → One j77 → n0 ≤ h7L.size → Exa Z h7L r0 oC0 → Fld Z h7L r0 oC0 "receivers" "I" (.int n) → Fld Z h7L r0 oC0 "outboxes" oC4 (.ref ob) → Fld Z h7L r0 oC0 "recipients" oC6 (.ref rv) → Fld Z h7L r0 oC0 "delivered" "I" (.int dl) → Fld Z h7L r0 oC0 "senders" "[I" vS → Fld Z h7L r0 oC0 "messages" "[J" vM → Fld Z h7L r0 oC0 "first" "[I" .null → Fld Z h7L r0 oC0 "end" "[I" .null → own_Oa Z h7L ob oC2 v0 v1 → own_Box Z h7L n0 v0 Da La → own_Box Z h7L n0 v1 Db Lb → Exa Z h7L rv oC1 → Fld Z h7L rv oC1 "words" "[J" (.ref wd) → Fld Z h7L rv oC1 "held" "[Z" (.ref hd) → Fld Z h7L rv oC1 "blocks" oC5 (.ref il) → Fld Z h7L rv oC1 "sorted" "Z" (.int 1) → Exa Z h7L il oC3 → Fld Z h7L il oC3 "indices" "[I" (.ref ix) → Fld Z h7L il oC3 "size" "I" (.int 0) → own_Arf Z h7L ix .int (16 : Int32) (fun i => .int (fi i)) → own_Arf Z h7L wd .long (16 : Int32) (fun i => .long ((own_w0 (0 : Int64)) i)) → own_Arf Z h7L hd .boolean (1 : Int32) (fun i => .int ((fun _ => (0 : Int32)) i)) → own_Fin p.tables e below s (Qrm9f1 Z r0 p1 n ob rv dl vS vM v0 v1 Da Db La Lb wd hd il ix fi h0 n0) rm9t_room.cells rm9t_room.slots (T7L.setTop (mkF m 123 #[oR r0, oI p1, .val (.long (own_tot (own_tot (0 : Int64) La) Lb)), oS, oR ob, oI 2, oI 1, j77, oU, oU, oU] [])) := by
   intro T7L L7L h7L j77 X7L N7L e7L hj77 Z7L E_r0_7L F_receivers_r0_7L F_outboxes_r0_7L F_recipients_r0_7L F_delivered_r0_7L F_senders_r0_7L F_messages_r0_7L F_first_r0_7L F_end_r0_7L O_ob_7L B_0_7L B_1_7L E_rv_7L F_words_rv_7L F_held_rv_7L F_blocks_rv_7L F_sorted_rv_7L E_il_7L F_indices_il_7L F_size_il_7L A_ix_7L A_wd_7L A_hd_7L
   show oF (T7L.setTop (mkF m 123 #[oR r0, oI p1, .val (.long (own_tot (own_tot (0 : Int64) La) Lb)), oS, oR ob, oI 2, oI 1, j77, oU, oU, oU] []))
   refine own_go (fun _ k => XS.iinc X7L.here hx rfl (hb hby d9_123) rfl (l' := #[oR r0, oI p1, .val (.long (own_tot (own_tot (0 : Int64) La) Lb)), oS, oR ob, oI 2, oI 2, j77, oU, oU, oU]) rfl k) ?_
   show oF (T7L.setTop (mkF m 126 #[oR r0, oI p1, .val (.long (own_tot (own_tot (0 : Int64) La) Lb)), oS, oR ob, oI 2, oI 2, j77, oU, oU, oU] []))
   refine own_go (fun _ k => XS.goto X7L.here hx rfl (pc0 := 126) (pc' := 91) rfl (hb hby d9_126) (by decide) (by decide) (XS.iload X7L.here hx rfl (hb hby d9_91) rfl (XS.iload X7L.here hx rfl (hb hby d9_93) rfl (XS.icmpYes X7L.here hx rfl (pc0 := 95) (pc' := 129) rfl (hb hby d9_95) rfl (flt (by decide)).2.1 (by decide) (by decide) k)))) ?_
   show oF (T7L.setTop (mkF m 129 #[oR r0, oI p1, .val (.long (own_tot (own_tot (0 : Int64) La) Lb)), oS, oR ob, oI 2, oI 2, j77, oU, oU, oU] []))
   refine own_go (fun _ k => XS.lloadN X7L.here hx rfl (hb hby d9_129) rfl k) ?_
   refine own_go (fun _ k => X7L.ldc2Long hx hown (mvT hZ (oW hw 114 rfl)) (g := (mkF m 130 #[oR r0, oI p1, .val (.long (own_tot (own_tot (0 : Int64) La) Lb)), oS, oR ob, oI 2, oI 2, j77, oU, oU, oU] [(.long (own_tot (own_tot (0 : Int64) La) Lb))])) rfl (hb hby d9_130) _ k) ?_
   refine own_go (fun _ k => XS.lcmp X7L.here hx rfl (hb hby d9_133) rfl k) ?_
   show oF (T7L.setTop (mkF m 134 #[oR r0, oI p1, .val (.long (own_tot (own_tot (0 : Int64) La) Lb)), oS, oR ob, oI 2, oI 2, j77, oU, oU, oU] [(.int (lcmpW (own_tot (own_tot (0 : Int64) La) Lb) (2147483639 : Int64)))]))
   have hc134 : ¬ ((2147483639 : Int64) < (own_tot (own_tot (0 : Int64) La) Lb)) := (own_totm hl)
   refine own_go (fun _ k => XS.ifYes X7L.here hx rfl (pc0 := 134) (pc' := 156) rfl (hb hby d9_134) rfl ((if0 _ _).trans (flt (mt (lw_gt _ _).mp hc134)).2.2.2) (by decide) (by decide) (XS.aloadN X7L.here hx rfl (hb hby d9_156) rfl rfl (XS.lloadN X7L.here hx rfl (hb hby d9_157) rfl (XS.l2i X7L.here hx rfl (hb hby d9_158) rfl k)))) ?_
   show oF (T7L.setTop (mkF m 159 #[oR r0, oI p1, .val (.long (own_tot (own_tot (0 : Int64) La) Lb)), oS, oR ob, oI 2, oI 2, j77, oU, oU, oU] [(.int ((own_tot (own_tot (0 : Int64) La) Lb).toInt32)), (.ref r0)]))
   obtain ⟨T8, h8, X8, e8, W8, st8⟩ := putF X7L hx hZ hown (host := "") (Or.inl (oW hw 115 rfl)) Via.refl e7L F_delivered_r0_7L E_r0_7L (Or.inl (oW hw 116 rfl)) (oW hw 2 rfl) (ty := .int) (by decide) rfl rfl (g := (mkF m 159 #[oR r0, oI p1, .val (.long (own_tot (own_tot (0 : Int64) La) Lb)), oS, oR ob, oI 2, oI 2, j77, oU, oU, oU] [(.int ((own_tot (own_tot (0 : Int64) La) Lb).toInt32)), (.ref r0)])) rfl rfl (hb hby d9_159)
   have E_r0_8 := E_r0_7L.wr W8
   have F_receivers_r0_8 := F_receivers_r0_7L.other W8 (Or.inr (own_sn694 hw))
   have F_outboxes_r0_8 := F_outboxes_r0_7L.other W8 (Or.inr (own_sn695 hw))
   have F_recipients_r0_8 := F_recipients_r0_7L.other W8 (Or.inr (own_sn696 hw))
   have F_senders_r0_8 := F_senders_r0_7L.other W8 (Or.inr (own_sn697 hw))
   have F_messages_r0_8 := F_messages_r0_7L.other W8 (Or.inr (own_sn698 hw))
   have F_first_r0_8 := F_first_r0_7L.other W8 (Or.inr (own_sn699 hw))
   have F_end_r0_8 := F_end_r0_7L.other W8 (Or.inr (own_sn700 hw))
   have O_ob_8 := O_ob_7L.other W8 (Ne.symm (own_ne_oa E_r0_7L (oW hw 2 rfl) O_ob_7L))
   have B_0_8 := B_0_7L.other W8 nb_r0_0
   have B_1_8 := B_1_7L.other W8 nb_r0_1
   have E_rv_8 := E_rv_7L.wr W8
   have u8_rv := (ne_exa E_rv_7L E_r0_7L (by decide))
   have F_words_rv_8 := F_words_rv_7L.other W8 (Or.inl u8_rv)
   have F_held_rv_8 := F_held_rv_7L.other W8 (Or.inl u8_rv)
   have F_blocks_rv_8 := F_blocks_rv_7L.other W8 (Or.inl u8_rv)
   have F_sorted_rv_8 := F_sorted_rv_7L.other W8 (Or.inl u8_rv)
   have E_il_8 := E_il_7L.wr W8
   have u8_il := (ne_exa E_il_7L E_r0_7L (by decide))
   have F_indices_il_8 := F_indices_il_7L.other W8 (Or.inl u8_il)
   have F_size_il_8 := F_size_il_7L.other W8 (Or.inl u8_il)
   have A_ix_8 := A_ix_7L.other W8 (Ne.symm (own_ne_arf E_r0_7L (oW hw 2 rfl) A_ix_7L))
   have A_wd_8 := A_wd_7L.other W8 (Ne.symm (own_ne_arf E_r0_7L (oW hw 2 rfl) A_wd_7L))
   have A_hd_8 := A_hd_7L.other W8 (Ne.symm (own_ne_arf E_r0_7L (oW hw 2 rfl) A_hd_7L))
   have N8 := Fr.snoc X8 N7L ge_r0
   have Z8 : n0 ≤ h8.size := Nat.le_trans Z7L (Keep.of_wr W8).1
   have F_delivered_r0_8 := F_delivered_r0_7L.same W8
   refine own_go (fun tg k => st8 tg k) ?_
   refine own_go (fun _ k => XS.aloadN X8.here hx rfl (hb hby d9_162) rfl rfl (XS.aconstNull X8.here hx rfl (hb hby d9_163) k)) ?_
   obtain ⟨T9, h9, X9, e9, W9, st9⟩ := putF X8 hx hZ hown (host := "") (Or.inl (oW hw 117 rfl)) Via.refl e8 F_senders_r0_8 E_r0_8 (Or.inl (oW hw 118 rfl)) (oW hw 2 rfl) (ty := (.array .int)) (by decide) rfl rfl (g := (mkF m 164 #[oR r0, oI p1, .val (.long (own_tot (own_tot (0 : Int64) La) Lb)), oS, oR ob, oI 2, oI 2, j77, oU, oU, oU] [.null, (.ref r0)])) rfl rfl (hb hby d9_164)
   have E_r0_9 := E_r0_8.wr W9
   have F_receivers_r0_9 := F_receivers_r0_8.other W9 (Or.inr (own_sn505 hw))
   have F_outboxes_r0_9 := F_outboxes_r0_8.other W9 (Or.inr (own_sn506 hw))
   have F_recipients_r0_9 := F_recipients_r0_8.other W9 (Or.inr (own_sn507 hw))
   have F_delivered_r0_9 := F_delivered_r0_8.other W9 (Or.inr (own_sn508 hw))
   have F_messages_r0_9 := F_messages_r0_8.other W9 (Or.inr (own_sn509 hw))
   have F_first_r0_9 := F_first_r0_8.other W9 (Or.inr (own_sn510 hw))
   have F_end_r0_9 := F_end_r0_8.other W9 (Or.inr (own_sn511 hw))
   have O_ob_9 := O_ob_8.other W9 (Ne.symm (own_ne_oa E_r0_8 (oW hw 2 rfl) O_ob_8))
   have B_0_9 := B_0_8.other W9 nb_r0_0
   have B_1_9 := B_1_8.other W9 nb_r0_1
   have E_rv_9 := E_rv_8.wr W9
   have u9_rv := (ne_exa E_rv_8 E_r0_8 (by decide))
   have F_words_rv_9 := F_words_rv_8.other W9 (Or.inl u9_rv)
   have F_held_rv_9 := F_held_rv_8.other W9 (Or.inl u9_rv)
   have F_blocks_rv_9 := F_blocks_rv_8.other W9 (Or.inl u9_rv)
   have F_sorted_rv_9 := F_sorted_rv_8.other W9 (Or.inl u9_rv)
   have E_il_9 := E_il_8.wr W9
   have u9_il := (ne_exa E_il_8 E_r0_8 (by decide))
   have F_indices_il_9 := F_indices_il_8.other W9 (Or.inl u9_il)
   have F_size_il_9 := F_size_il_8.other W9 (Or.inl u9_il)
   have A_ix_9 := A_ix_8.other W9 (Ne.symm (own_ne_arf E_r0_8 (oW hw 2 rfl) A_ix_8))
   have A_wd_9 := A_wd_8.other W9 (Ne.symm (own_ne_arf E_r0_8 (oW hw 2 rfl) A_wd_8))
   have A_hd_9 := A_hd_8.other W9 (Ne.symm (own_ne_arf E_r0_8 (oW hw 2 rfl) A_hd_8))
   have N9 := Fr.snoc X9 N8 ge_r0
   have Z9 : n0 ≤ h9.size := Nat.le_trans Z8 (Keep.of_wr W9).1
   have F_senders_r0_9 := F_senders_r0_8.same W9
   refine own_go (fun tg k => st9 tg k) ?_
   refine own_go (fun _ k => XS.aloadN X9.here hx rfl (hb hby d9_167) rfl rfl (XS.aconstNull X9.here hx rfl (hb hby d9_168) k)) ?_
   obtain ⟨T10, h10, X10, e10, W10, st10⟩ := putF X9 hx hZ hown (host := "") (Or.inl (oW hw 119 rfl)) Via.refl e9 F_messages_r0_9 E_r0_9 (Or.inl (oW hw 120 rfl)) (oW hw 2 rfl) (ty := (.array .long)) (by decide) rfl rfl (g := (mkF m 169 #[oR r0, oI p1, .val (.long (own_tot (own_tot (0 : Int64) La) Lb)), oS, oR ob, oI 2, oI 2, j77, oU, oU, oU] [.null, (.ref r0)])) rfl rfl (hb hby d9_169)
   have E_r0_10 := E_r0_9.wr W10
   have F_receivers_r0_10 := F_receivers_r0_9.other W10 (Or.inr (own_sn512 hw))
   have F_outboxes_r0_10 := F_outboxes_r0_9.other W10 (Or.inr (own_sn513 hw))
   have F_recipients_r0_10 := F_recipients_r0_9.other W10 (Or.inr (own_sn514 hw))
   have F_delivered_r0_10 := F_delivered_r0_9.other W10 (Or.inr (own_sn515 hw))
   have F_senders_r0_10 := F_senders_r0_9.other W10 (Or.inr (own_sn516 hw))
   have F_first_r0_10 := F_first_r0_9.other W10 (Or.inr (own_sn517 hw))
   have F_end_r0_10 := F_end_r0_9.other W10 (Or.inr (own_sn518 hw))
   have O_ob_10 := O_ob_9.other W10 (Ne.symm (own_ne_oa E_r0_9 (oW hw 2 rfl) O_ob_9))
   have B_0_10 := B_0_9.other W10 nb_r0_0
   have B_1_10 := B_1_9.other W10 nb_r0_1
   have E_rv_10 := E_rv_9.wr W10
   have u10_rv := (ne_exa E_rv_9 E_r0_9 (by decide))
   have F_words_rv_10 := F_words_rv_9.other W10 (Or.inl u10_rv)
   have F_held_rv_10 := F_held_rv_9.other W10 (Or.inl u10_rv)
   have F_blocks_rv_10 := F_blocks_rv_9.other W10 (Or.inl u10_rv)
   have F_sorted_rv_10 := F_sorted_rv_9.other W10 (Or.inl u10_rv)
   have E_il_10 := E_il_9.wr W10
   have u10_il := (ne_exa E_il_9 E_r0_9 (by decide))
   have F_indices_il_10 := F_indices_il_9.other W10 (Or.inl u10_il)
   have F_size_il_10 := F_size_il_9.other W10 (Or.inl u10_il)
   have A_ix_10 := A_ix_9.other W10 (Ne.symm (own_ne_arf E_r0_9 (oW hw 2 rfl) A_ix_9))
   have A_wd_10 := A_wd_9.other W10 (Ne.symm (own_ne_arf E_r0_9 (oW hw 2 rfl) A_wd_9))
   have A_hd_10 := A_hd_9.other W10 (Ne.symm (own_ne_arf E_r0_9 (oW hw 2 rfl) A_hd_9))
   have N10 := Fr.snoc X10 N9 ge_r0
   have Z10 : n0 ≤ h10.size := Nat.le_trans Z9 (Keep.of_wr W10).1
   have F_messages_r0_10 := F_messages_r0_9.same W10
   refine own_go (fun tg k => st10 tg k) ?_
   refine own_go (fun _ k => XS.lloadN X10.here hx rfl (hb hby d9_172) rfl (XS.lconst X10.here hx rfl (hb hby d9_173) (XS.lcmp X10.here hx rfl (hb hby d9_174) rfl k))) ?_
   show oF (T10.setTop (mkF m 175 #[oR r0, oI p1, .val (.long (own_tot (own_tot (0 : Int64) La) Lb)), oS, oR ob, oI 2, oI 2, j77, oU, oU, oU] [(.int (lcmpW (own_tot (own_tot (0 : Int64) La) Lb) (0 : Int64)))]))
   have hc175 : ¬ ((own_tot (own_tot (0 : Int64) La) Lb) = (0 : Int64)) := (own_tot1 hl hz)
   refine own_go (fun _ k => XS.ifYes X10.here hx rfl (pc0 := 175) (pc' := 180) rfl (hb hby d9_175) rfl ((if0 _ _).trans (feq (mt (lw_eq _ _).mp hc175)).2) (by decide) (by decide) k) ?_
   show oF (T10.setTop (mkF m 180 #[oR r0, oI p1, .val (.long (own_tot (own_tot (0 : Int64) La) Lb)), oS, oR ob, oI 2, oI 2, j77, oU, oU, oU] []))
   refine own_go (fun _ k => XS.aloadN X10.here hx rfl (hb hby d9_180) rfl rfl k) ?_
   obtain ⟨T11, X11, e11, st11⟩ := getF X10 hx hZ hown (host := "") (Or.inl (oW hw 121 rfl)) Via.refl e10 F_first_r0_10 (g := (mkF m 181 #[oR r0, oI p1, .val (.long (own_tot (own_tot (0 : Int64) La) Lb)), oS, oR ob, oI 2, oI 2, j77, oU, oU, oU] [(.ref r0)])) rfl rfl (hb hby d9_181)
   refine own_go (fun tg k => st11 tg k) ?_
   refine own_go (fun _ k => XS.ifnonnullNo X11.here hx rfl (hb hby d9_184) rfl (XS.aloadN X11.here hx rfl (hb hby d9_187) rfl rfl (XS.aloadN X11.here hx rfl (hb hby d9_188) rfl rfl k))) ?_
   obtain ⟨T12, X12, e12, st12⟩ := getF X11 hx hZ hown (host := "") (Or.inl (oW hw 18 rfl)) Via.refl e11 F_receivers_r0_10 (g := (mkF m 189 #[oR r0, oI p1, .val (.long (own_tot (own_tot (0 : Int64) La) Lb)), oS, oR ob, oI 2, oI 2, j77, oU, oU, oU] [(.ref r0), (.ref r0)])) rfl rfl (hb hby d9_189)
   refine own_go (fun tg k => st12 tg k) ?_
   obtain ⟨T13, h13, k13, X13, e13, E13, A13, st13⟩ := newP X12 hx hZ (oW hw 44 rfl) e12 (g := (mkF m 192 #[oR r0, oI p1, .val (.long (own_tot (own_tot (0 : Int64) La) Lb)), oS, oR ob, oI 2, oI 2, j77, oU, oU, oU] [(.int n), (.ref r0)])) rfl (hb hby d9_192) rfl (own_n14n hn) (cap := 4) (own_n14c hn) (by decide) (by decide) (by decide)
   obtain ⟨b13, g13⟩ : ∃ z, z = h10.size := ⟨_, rfl⟩
   rw [← g13] at A13 st13
   have ne_r0_b13 : r0 ≠ b13 := Nat.ne_of_lt (Nat.lt_of_lt_of_le E_r0_10.lt (Nat.le_of_eq g13.symm))
   have ne_ob_b13 : ob ≠ b13 := Nat.ne_of_lt (Nat.lt_of_lt_of_le O_ob_10.lt (Nat.le_of_eq g13.symm))
   have ne_rv_b13 : rv ≠ b13 := Nat.ne_of_lt (Nat.lt_of_lt_of_le E_rv_10.lt (Nat.le_of_eq g13.symm))
   have ne_il_b13 : il ≠ b13 := Nat.ne_of_lt (Nat.lt_of_lt_of_le E_il_10.lt (Nat.le_of_eq g13.symm))
   have ne_ix_b13 : ix ≠ b13 := Nat.ne_of_lt (Nat.lt_of_lt_of_le A_ix_10.lt (Nat.le_of_eq g13.symm))
   have ne_wd_b13 : wd ≠ b13 := Nat.ne_of_lt (Nat.lt_of_lt_of_le A_wd_10.lt (Nat.le_of_eq g13.symm))
   have ne_hd_b13 : hd ≠ b13 := Nat.ne_of_lt (Nat.lt_of_lt_of_le A_hd_10.lt (Nat.le_of_eq g13.symm))
   have nb_b13_0 : b13 ∉ Da := B_0_10.nin (Nat.le_of_eq g13.symm)
   have nb_b13_1 : b13 ∉ Db := B_1_10.nin (Nat.le_of_eq g13.symm)
   have ge_b13 : n0 ≤ b13 := Nat.le_trans Z10 (Nat.le_of_eq g13.symm)
   have E_r0_13 := E_r0_10.ext E13
   have F_receivers_r0_13 := F_receivers_r0_10.ext E13
   have F_outboxes_r0_13 := F_outboxes_r0_10.ext E13
   have F_recipients_r0_13 := F_recipients_r0_10.ext E13
   have F_delivered_r0_13 := F_delivered_r0_10.ext E13
   have F_senders_r0_13 := F_senders_r0_10.ext E13
   have F_messages_r0_13 := F_messages_r0_10.ext E13
   have F_first_r0_13 := F_first_r0_10.ext E13
   have F_end_r0_13 := F_end_r0_10.ext E13
   have O_ob_13 := O_ob_10.ext E13
   have B_0_13 := B_0_10.ext E13
   have B_1_13 := B_1_10.ext E13
   have E_rv_13 := E_rv_10.ext E13
   have F_words_rv_13 := F_words_rv_10.ext E13
   have F_held_rv_13 := F_held_rv_10.ext E13
   have F_blocks_rv_13 := F_blocks_rv_10.ext E13
   have F_sorted_rv_13 := F_sorted_rv_10.ext E13
   have E_il_13 := E_il_10.ext E13
   have F_indices_il_13 := F_indices_il_10.ext E13
   have F_size_il_13 := F_size_il_10.ext E13
   have A_ix_13 := A_ix_10.ext E13
   have A_wd_13 := A_wd_10.ext E13
   have A_hd_13 := A_hd_10.ext E13
   have Z13 : n0 ≤ h13.size := Nat.le_trans Z10 E13.1
   have A_b13_13 : own_Arf Z h13 b13 .int n (fun i => .int ((fun _ => (0 : Int32)) i)) := own_Arf.new A13 (own_n14n hn)
   refine own_go (fun tg k => st13 tg k) ?_
   obtain ⟨T14, h14, X14, e14, W14, st14⟩ := putF X13 hx hZ hown (host := "") (Or.inl (oW hw 121 rfl)) Via.refl e13 F_first_r0_13 E_r0_13 (Or.inl (oW hw 122 rfl)) (oW hw 2 rfl) (ty := (.array .int)) (by decide) rfl rfl (g := (mkF m 194 #[oR r0, oI p1, .val (.long (own_tot (own_tot (0 : Int64) La) Lb)), oS, oR ob, oI 2, oI 2, j77, oU, oU, oU] [(.ref b13), (.ref r0)])) rfl rfl (hb hby d9_194)
   have E_r0_14 := E_r0_13.wr W14
   have F_receivers_r0_14 := F_receivers_r0_13.other W14 (Or.inr (own_sn760 hw))
   have F_outboxes_r0_14 := F_outboxes_r0_13.other W14 (Or.inr (own_sn761 hw))
   have F_recipients_r0_14 := F_recipients_r0_13.other W14 (Or.inr (own_sn762 hw))
   have F_delivered_r0_14 := F_delivered_r0_13.other W14 (Or.inr (own_sn763 hw))
   have F_senders_r0_14 := F_senders_r0_13.other W14 (Or.inr (own_sn764 hw))
   have F_messages_r0_14 := F_messages_r0_13.other W14 (Or.inr (own_sn765 hw))
   have F_end_r0_14 := F_end_r0_13.other W14 (Or.inr (own_sn766 hw))
   have O_ob_14 := O_ob_13.other W14 (Ne.symm (own_ne_oa E_r0_13 (oW hw 2 rfl) O_ob_13))
   have B_0_14 := B_0_13.other W14 nb_r0_0
   have B_1_14 := B_1_13.other W14 nb_r0_1
   have E_rv_14 := E_rv_13.wr W14
   have u14_rv := (ne_exa E_rv_13 E_r0_13 (by decide))
   have F_words_rv_14 := F_words_rv_13.other W14 (Or.inl u14_rv)
   have F_held_rv_14 := F_held_rv_13.other W14 (Or.inl u14_rv)
   have F_blocks_rv_14 := F_blocks_rv_13.other W14 (Or.inl u14_rv)
   have F_sorted_rv_14 := F_sorted_rv_13.other W14 (Or.inl u14_rv)
   have E_il_14 := E_il_13.wr W14
   have u14_il := (ne_exa E_il_13 E_r0_13 (by decide))
   have F_indices_il_14 := F_indices_il_13.other W14 (Or.inl u14_il)
   have F_size_il_14 := F_size_il_13.other W14 (Or.inl u14_il)
   have A_ix_14 := A_ix_13.other W14 (Ne.symm (own_ne_arf E_r0_13 (oW hw 2 rfl) A_ix_13))
   have A_wd_14 := A_wd_13.other W14 (Ne.symm (own_ne_arf E_r0_13 (oW hw 2 rfl) A_wd_13))
   have A_hd_14 := A_hd_13.other W14 (Ne.symm (own_ne_arf E_r0_13 (oW hw 2 rfl) A_hd_13))
   have A_b13_14 := A_b13_13.other W14 (Ne.symm ne_r0_b13)
   have N14 := Fr.snoc X14 N10 ge_r0
   have Z14 : n0 ≤ h14.size := Nat.le_trans Z13 (Keep.of_wr W14).1
   have F_first_r0_14 := F_first_r0_13.same W14
   refine own_go (fun tg k => st14 tg k) ?_
   refine own_go (fun _ k => XS.aloadN X14.here hx rfl (hb hby d9_197) rfl rfl (XS.aloadN X14.here hx rfl (hb hby d9_198) rfl rfl k)) ?_
   obtain ⟨T15, X15, e15, st15⟩ := getF X14 hx hZ hown (host := "") (Or.inl (oW hw 18 rfl)) Via.refl e14 F_receivers_r0_14 (g := (mkF m 199 #[oR r0, oI p1, .val (.long (own_tot (own_tot (0 : Int64) La) Lb)), oS, oR ob, oI 2, oI 2, j77, oU, oU, oU] [(.ref r0), (.ref r0)])) rfl rfl (hb hby d9_199)
   refine own_go (fun tg k => st15 tg k) ?_
   obtain ⟨T16, h16, k16, X16, e16, E16, A16, st16⟩ := newP X15 hx hZ (oW hw 44 rfl) e15 (g := (mkF m 202 #[oR r0, oI p1, .val (.long (own_tot (own_tot (0 : Int64) La) Lb)), oS, oR ob, oI 2, oI 2, j77, oU, oU, oU] [(.int n), (.ref r0)])) rfl (hb hby d9_202) rfl (own_n14n hn) (cap := 4) (own_n14c hn) (by decide) (by decide) (by decide)
   obtain ⟨b16, g16⟩ : ∃ z, z = h14.size := ⟨_, rfl⟩
   rw [← g16] at A16 st16
   have ne_r0_b16 : r0 ≠ b16 := Nat.ne_of_lt (Nat.lt_of_lt_of_le E_r0_14.lt (Nat.le_of_eq g16.symm))
   have ne_ob_b16 : ob ≠ b16 := Nat.ne_of_lt (Nat.lt_of_lt_of_le O_ob_14.lt (Nat.le_of_eq g16.symm))
   have ne_rv_b16 : rv ≠ b16 := Nat.ne_of_lt (Nat.lt_of_lt_of_le E_rv_14.lt (Nat.le_of_eq g16.symm))
   have ne_il_b16 : il ≠ b16 := Nat.ne_of_lt (Nat.lt_of_lt_of_le E_il_14.lt (Nat.le_of_eq g16.symm))
   have ne_ix_b16 : ix ≠ b16 := Nat.ne_of_lt (Nat.lt_of_lt_of_le A_ix_14.lt (Nat.le_of_eq g16.symm))
   have ne_wd_b16 : wd ≠ b16 := Nat.ne_of_lt (Nat.lt_of_lt_of_le A_wd_14.lt (Nat.le_of_eq g16.symm))
   have ne_hd_b16 : hd ≠ b16 := Nat.ne_of_lt (Nat.lt_of_lt_of_le A_hd_14.lt (Nat.le_of_eq g16.symm))
   have ne_b13_b16 : b13 ≠ b16 := Nat.ne_of_lt (Nat.lt_of_lt_of_le A_b13_14.lt (Nat.le_of_eq g16.symm))
   have nb_b16_0 : b16 ∉ Da := B_0_14.nin (Nat.le_of_eq g16.symm)
   have nb_b16_1 : b16 ∉ Db := B_1_14.nin (Nat.le_of_eq g16.symm)
   have ge_b16 : n0 ≤ b16 := Nat.le_trans Z14 (Nat.le_of_eq g16.symm)
   have E_r0_16 := E_r0_14.ext E16
   have F_receivers_r0_16 := F_receivers_r0_14.ext E16
   have F_outboxes_r0_16 := F_outboxes_r0_14.ext E16
   have F_recipients_r0_16 := F_recipients_r0_14.ext E16
   have F_delivered_r0_16 := F_delivered_r0_14.ext E16
   have F_senders_r0_16 := F_senders_r0_14.ext E16
   have F_messages_r0_16 := F_messages_r0_14.ext E16
   have F_first_r0_16 := F_first_r0_14.ext E16
   have F_end_r0_16 := F_end_r0_14.ext E16
   have O_ob_16 := O_ob_14.ext E16
   have B_0_16 := B_0_14.ext E16
   have B_1_16 := B_1_14.ext E16
   have E_rv_16 := E_rv_14.ext E16
   have F_words_rv_16 := F_words_rv_14.ext E16
   have F_held_rv_16 := F_held_rv_14.ext E16
   have F_blocks_rv_16 := F_blocks_rv_14.ext E16
   have F_sorted_rv_16 := F_sorted_rv_14.ext E16
   have E_il_16 := E_il_14.ext E16
   have F_indices_il_16 := F_indices_il_14.ext E16
   have F_size_il_16 := F_size_il_14.ext E16
   have A_ix_16 := A_ix_14.ext E16
   have A_wd_16 := A_wd_14.ext E16
   have A_hd_16 := A_hd_14.ext E16
   have A_b13_16 := A_b13_14.ext E16
   have Z16 : n0 ≤ h16.size := Nat.le_trans Z14 E16.1
   have A_b16_16 : own_Arf Z h16 b16 .int n (fun i => .int ((fun _ => (0 : Int32)) i)) := own_Arf.new A16 (own_n14n hn)
   refine own_go (fun tg k => st16 tg k) ?_
   obtain ⟨T17, h17, X17, e17, W17, st17⟩ := putF X16 hx hZ hown (host := "") (Or.inl (oW hw 123 rfl)) Via.refl e16 F_end_r0_16 E_r0_16 (Or.inl (oW hw 124 rfl)) (oW hw 2 rfl) (ty := (.array .int)) (by decide) rfl rfl (g := (mkF m 204 #[oR r0, oI p1, .val (.long (own_tot (own_tot (0 : Int64) La) Lb)), oS, oR ob, oI 2, oI 2, j77, oU, oU, oU] [(.ref b16), (.ref r0)])) rfl rfl (hb hby d9_204)
   have E_r0_17 := E_r0_16.wr W17
   have F_receivers_r0_17 := F_receivers_r0_16.other W17 (Or.inr (own_sn767 hw))
   have F_outboxes_r0_17 := F_outboxes_r0_16.other W17 (Or.inr (own_sn768 hw))
   have F_recipients_r0_17 := F_recipients_r0_16.other W17 (Or.inr (own_sn769 hw))
   have F_delivered_r0_17 := F_delivered_r0_16.other W17 (Or.inr (own_sn770 hw))
   have F_senders_r0_17 := F_senders_r0_16.other W17 (Or.inr (own_sn771 hw))
   have F_messages_r0_17 := F_messages_r0_16.other W17 (Or.inr (own_sn772 hw))
   have F_first_r0_17 := F_first_r0_16.other W17 (Or.inr (own_sn773 hw))
   have O_ob_17 := O_ob_16.other W17 (Ne.symm (own_ne_oa E_r0_16 (oW hw 2 rfl) O_ob_16))
   have B_0_17 := B_0_16.other W17 nb_r0_0
   have B_1_17 := B_1_16.other W17 nb_r0_1
   have E_rv_17 := E_rv_16.wr W17
   have u17_rv := (ne_exa E_rv_16 E_r0_16 (by decide))
   have F_words_rv_17 := F_words_rv_16.other W17 (Or.inl u17_rv)
   have F_held_rv_17 := F_held_rv_16.other W17 (Or.inl u17_rv)
   have F_blocks_rv_17 := F_blocks_rv_16.other W17 (Or.inl u17_rv)
   have F_sorted_rv_17 := F_sorted_rv_16.other W17 (Or.inl u17_rv)
   have E_il_17 := E_il_16.wr W17
   have u17_il := (ne_exa E_il_16 E_r0_16 (by decide))
   have F_indices_il_17 := F_indices_il_16.other W17 (Or.inl u17_il)
   have F_size_il_17 := F_size_il_16.other W17 (Or.inl u17_il)
   have A_ix_17 := A_ix_16.other W17 (Ne.symm (own_ne_arf E_r0_16 (oW hw 2 rfl) A_ix_16))
   have A_wd_17 := A_wd_16.other W17 (Ne.symm (own_ne_arf E_r0_16 (oW hw 2 rfl) A_wd_16))
   have A_hd_17 := A_hd_16.other W17 (Ne.symm (own_ne_arf E_r0_16 (oW hw 2 rfl) A_hd_16))
   have A_b13_17 := A_b13_16.other W17 (Ne.symm ne_r0_b13)
   have A_b16_17 := A_b16_16.other W17 (Ne.symm ne_r0_b16)
   have N17 := Fr.snoc X17 N14 ge_r0
   have Z17 : n0 ≤ h17.size := Nat.le_trans Z16 (Keep.of_wr W17).1
   have F_end_r0_17 := F_end_r0_16.same W17
   refine own_go (fun tg k => st17 tg k) ?_
   show oF (T17.setTop (mkF m 207 #[oR r0, oI p1, .val (.long (own_tot (own_tot (0 : Int64) La) Lb)), oS, oR ob, oI 2, oI 2, j77, oU, oU, oU] []))
   exact own_Fmono (fun v h L q => q) (rm9t l Z a0 hw r0 p1 n ob rv b13 b16 v0 v1 Da Db La Lb wd hd il ix fi h0 n0 hx hby hml hZ hown hlk Bd.returns hh (own_mono X17 (by decide) (by decide)) N17 e17 Z17 hj77 E_r0_17 F_receivers_r0_17 F_outboxes_r0_17 F_recipients_r0_17 F_delivered_r0_17 F_senders_r0_17 F_messages_r0_17 F_first_r0_17 F_end_r0_17 O_ob_17 B_0_17 B_1_17 E_rv_17 F_words_rv_17 F_held_rv_17 F_blocks_rv_17 F_sorted_rv_17 E_il_17 F_indices_il_17 F_size_il_17 A_ix_17 A_wd_17 A_hd_17 A_b13_17 A_b16_17 ne_b13_b16 ne_ix_b13 ne_ix_b16 ge_r0 ge_rv ge_wd ge_hd ge_il ge_ix ge_b13 ge_b16 nb_r0_0 nb_r0_1 nb_rv_0 nb_rv_1 nb_wd_0 nb_wd_1 nb_hd_0 nb_hd_1 nb_il_0 nb_il_1 nb_ix_0 nb_ix_1 nb_b13_0 nb_b13_1 nb_b16_0 nb_b16_1 hdj hn hl hm hz)
  obtain ⟨hl18, ⟨hv18, hD18, hL18⟩ | ⟨xa18, xb18, xc18, xd18, q118, gg18, q318, hv18, hD18, hB18, hg18⟩⟩ := id B_1_6L
  · refine own_vr hv18 ?_
    show oF (T6L.setTop (mkF m 103 #[oR r0, oI p1, .val (.long (own_tot (0 : Int64) La)), oS, oR ob, oI 2, oI 1, j76, oU, oU, oU] [.null]))
    refine own_go (fun _ k => XS.astoreS X6L.here hx rfl (hb hby d9_103) rfl rfl rfl rfl hj76 (XS.lloadN X6L.here hx rfl (hb hby d9_105) rfl (XS.aload X6L.here hx rfl (hb hby d9_106) rfl rfl (XS.ifnonnullNo X6L.here hx rfl (hb hby d9_108) rfl (XS.lconst X6L.here hx rfl (hb hby d9_111) (XS.goto X6L.here hx rfl (pc0 := 112) (pc' := 121) rfl (hb hby d9_112) (by decide) (by decide) (XS.ladd X6L.here hx rfl (hb hby d9_121) rfl (XS.lstoreN X6L.here hx rfl (hb hby d9_122) rfl (l' := #[oR r0, oI p1, .val (.long ((own_tot (0 : Int64) La) + (0 : Int64))), oS, oR ob, oI 2, oI 1, .val .null, oU, oU, oU]) rfl k)))))))) ?_
    have kj := hk7  T6L _ h6L (.val .null) (own_mono X6L (by decide) (by decide)) N6L e6L (One.val rfl) Z6L E_r0_6L F_receivers_r0_6L F_outboxes_r0_6L F_recipients_r0_6L F_delivered_r0_6L F_senders_r0_6L F_messages_r0_6L F_first_r0_6L F_end_r0_6L O_ob_6L B_0_6L B_1_6L E_rv_6L F_words_rv_6L F_held_rv_6L F_blocks_rv_6L F_sorted_rv_6L E_il_6L F_indices_il_6L F_size_il_6L A_ix_6L A_wd_6L A_hd_6L
    rw [show (own_tot (own_tot (0 : Int64) La) Lb) = ((own_tot (0 : Int64) La) + (0 : Int64)) from by rw [hL18]; first | rfl | decide | simp [own_tot]] at kj
    exact kj
  · refine own_vr hv18 ?_
    show oF (T6L.setTop (mkF m 103 #[oR r0, oI p1, .val (.long (own_tot (0 : Int64) La)), oS, oR ob, oI 2, oI 1, j76, oU, oU, oU] [(.ref xa18)]))
    obtain ⟨⟨ge_xa18, ge_xb18, ge_xc18, ge_xd18, ne_xb18_xc18⟩, E_xa18_o, F_size_xa18_o, F_senders_xa18_o, F_receivers_xa18_o, F_messages_xa18_o, A_xb18_o, A_xc18_o, A_xd18_o⟩ := hB18
    refine own_go (fun _ k => XS.astoreS X6L.here hx rfl (hb hby d9_103) rfl rfl rfl rfl hj76 (XS.lloadN X6L.here hx rfl (hb hby d9_105) rfl (XS.aload X6L.here hx rfl (hb hby d9_106) rfl rfl (XS.ifnonnullYes X6L.here hx rfl (pc0 := 108) (pc' := 115) rfl (hb hby d9_108) rfl (by decide) (by decide) (XS.aload X6L.here hx rfl (hb hby d9_115) rfl rfl k))))) ?_
    refine own_go (fun tg k => own_getFR X6L hx hZ hown (oW hw 113 rfl) e6L F_size_xa18_o (g := (mkF m 117 #[oR r0, oI p1, .val (.long (own_tot (0 : Int64) La)), oS, oR ob, oI 2, oI 1, oR xa18, oU, oU, oU] [(.ref xa18), (.long (own_tot (0 : Int64) La))])) rfl rfl (hb hby d9_117) tg k) ?_
    refine own_go (fun _ k => XS.i2l X6L.here hx rfl (hb hby d9_120) rfl k) ?_
    show oF (T6L.setTop (mkF m 121 #[oR r0, oI p1, .val (.long (own_tot (0 : Int64) La)), oS, oR ob, oI 2, oI 1, oR xa18, oU, oU, oU] [(.long ((Int32.ofNat Lb.length).toInt64)), (.long (own_tot (0 : Int64) La))]))
    refine own_go (fun _ k => XS.ladd X6L.here hx rfl (hb hby d9_121) rfl (XS.lstoreN X6L.here hx rfl (hb hby d9_122) rfl (l' := #[oR r0, oI p1, .val (.long ((own_tot (0 : Int64) La) + ((Int32.ofNat Lb.length).toInt64))), oS, oR ob, oI 2, oI 1, oR xa18, oU, oU, oU]) rfl k)) ?_
    exact hk7  T6L _ h6L (oR xa18) (own_mono X6L (by decide) (by decide)) N6L e6L (One.val rfl) Z6L E_r0_6L F_receivers_r0_6L F_outboxes_r0_6L F_recipients_r0_6L F_delivered_r0_6L F_senders_r0_6L F_messages_r0_6L F_first_r0_6L F_end_r0_6L O_ob_6L B_0_6L B_1_6L E_rv_6L F_words_rv_6L F_held_rv_6L F_blocks_rv_6L F_sorted_rv_6L E_il_6L F_indices_il_6L F_size_il_6L A_ix_6L A_wd_6L A_hd_6L
 obtain ⟨hl19, ⟨hv19, hD19, hL19⟩ | ⟨xa19, xb19, xc19, xd19, q119, gg19, q319, hv19, hD19, hB19, hg19⟩⟩ := id B_0_4
 · refine own_vr hv19 ?_
   show oF (T5.setTop (mkF m 103 #[oR r0, oI p1, .val (.long (0 : Int64)), oS, oR ob, oI 2, oI 0, oU, oU, oU, oU] [.null]))
   refine own_go (fun _ k => XS.astore X5.here hx rfl (hb hby d9_103) rfl rfl (l' := #[oR r0, oI p1, .val (.long (0 : Int64)), oS, oR ob, oI 2, oI 0, .val .null, oU, oU, oU]) rfl (XS.lloadN X5.here hx rfl (hb hby d9_105) rfl (XS.aload X5.here hx rfl (hb hby d9_106) rfl rfl (XS.ifnonnullNo X5.here hx rfl (hb hby d9_108) rfl (XS.lconst X5.here hx rfl (hb hby d9_111) (XS.goto X5.here hx rfl (pc0 := 112) (pc' := 121) rfl (hb hby d9_112) (by decide) (by decide) (XS.ladd X5.here hx rfl (hb hby d9_121) rfl k))))))) ?_
   show oF (T5.setTop (mkF m 122 #[oR r0, oI p1, .val (.long (0 : Int64)), oS, oR ob, oI 2, oI 0, .val .null, oU, oU, oU] [(.long (0 : Int64))]))
   refine own_go (fun _ k => XS.lstoreN X5.here hx rfl (hb hby d9_122) rfl (l' := #[oR r0, oI p1, .val (.long (0 : Int64)), oS, oR ob, oI 2, oI 0, .val .null, oU, oU, oU]) rfl k) ?_
   have kj := hk6  T5 _ T4.heap (.val .null) (own_mono X5 (by decide) (by decide)) N4 e5 (One.val rfl) Z4 E_r0_4 F_receivers_r0_4 F_outboxes_r0_4 F_recipients_r0_4 F_delivered_r0_4 F_senders_r0_4 F_messages_r0_4 F_first_r0_4 F_end_r0_4 O_ob_4 B_0_4 B_1_4 E_rv_4 F_words_rv_4 F_held_rv_4 F_blocks_rv_4 F_sorted_rv_4 E_il_4 F_indices_il_4 F_size_il_4 A_ix_4 A_wd_4 A_hd_4
   rw [show (own_tot (0 : Int64) La) = (0 : Int64) from by rw [hL19]; first | rfl | decide | simp [own_tot]] at kj
   exact kj
 · refine own_vr hv19 ?_
   show oF (T5.setTop (mkF m 103 #[oR r0, oI p1, .val (.long (0 : Int64)), oS, oR ob, oI 2, oI 0, oU, oU, oU, oU] [(.ref xa19)]))
   obtain ⟨⟨ge_xa19, ge_xb19, ge_xc19, ge_xd19, ne_xb19_xc19⟩, E_xa19_o, F_size_xa19_o, F_senders_xa19_o, F_receivers_xa19_o, F_messages_xa19_o, A_xb19_o, A_xc19_o, A_xd19_o⟩ := hB19
   refine own_go (fun _ k => XS.astore X5.here hx rfl (hb hby d9_103) rfl rfl (l' := #[oR r0, oI p1, .val (.long (0 : Int64)), oS, oR ob, oI 2, oI 0, oR xa19, oU, oU, oU]) rfl (XS.lloadN X5.here hx rfl (hb hby d9_105) rfl (XS.aload X5.here hx rfl (hb hby d9_106) rfl rfl (XS.ifnonnullYes X5.here hx rfl (pc0 := 108) (pc' := 115) rfl (hb hby d9_108) rfl (by decide) (by decide) (XS.aload X5.here hx rfl (hb hby d9_115) rfl rfl k))))) ?_
   refine own_go (fun tg k => own_getFR X5 hx hZ hown (oW hw 113 rfl) e5 F_size_xa19_o (g := (mkF m 117 #[oR r0, oI p1, .val (.long (0 : Int64)), oS, oR ob, oI 2, oI 0, oR xa19, oU, oU, oU] [(.ref xa19), (.long (0 : Int64))])) rfl rfl (hb hby d9_117) tg k) ?_
   refine own_go (fun _ k => XS.i2l X5.here hx rfl (hb hby d9_120) rfl k) ?_
   show oF (T5.setTop (mkF m 121 #[oR r0, oI p1, .val (.long (0 : Int64)), oS, oR ob, oI 2, oI 0, oR xa19, oU, oU, oU] [(.long ((Int32.ofNat La.length).toInt64)), (.long (0 : Int64))]))
   refine own_go (fun _ k => XS.ladd X5.here hx rfl (hb hby d9_121) rfl (XS.lstoreN X5.here hx rfl (hb hby d9_122) rfl (l' := #[oR r0, oI p1, .val (.long ((0 : Int64) + ((Int32.ofNat La.length).toInt64))), oS, oR ob, oI 2, oI 0, oR xa19, oU, oU, oU]) rfl k)) ?_
   exact hk6  T5 _ T4.heap (oR xa19) (own_mono X5 (by decide) (by decide)) N4 e5 (One.val rfl) Z4 E_r0_4 F_receivers_r0_4 F_outboxes_r0_4 F_recipients_r0_4 F_delivered_r0_4 F_senders_r0_4 F_messages_r0_4 F_first_r0_4 F_end_r0_4 O_ob_4 B_0_4 B_1_4 E_rv_4 F_words_rv_4 F_held_rv_4 F_blocks_rv_4 F_sorted_rv_4 E_il_4 F_indices_il_4 F_size_il_4 A_ix_4 A_wd_4 A_hd_4
theorem own_pd787 : parseMethodDescriptor "([IIII)V" = some ⟨[(.array .int), .int, .int, .int], none⟩ := by decide +kernel
theorem d9_13 : oQ oD24 13 (.aload_n 0) 1 := by decide +kernel
theorem d9_14 : oQ oD24 14 (.getfield 36) 3 := by decide +kernel
theorem d9_17 : oQ oD24 17 (.iload_n 2) 1 := by decide +kernel
theorem d9_18 : oQ oD24 18 (.invokevirtual 67) 3 := by decide +kernel
theorem d9_21 : oQ oD24 21 (.istore_n 3) 1 := by decide +kernel
theorem d9_22 : oQ oD24 22 (.iload_n 3) 1 := by decide +kernel
theorem d9_23 : oQ oD24 23 (.aload_n 0) 1 := by decide +kernel
theorem d9_24 : oQ oD24 24 (.getfield 9) 3 := by decide +kernel
theorem d9_27 : oQ oD24 27 (.invokestatic 70) 3 := by decide +kernel
theorem d9_30 : oQ oD24 30 (.istore 4) 2 := by decide +kernel
theorem d9_32 : oQ oD24 32 (.aload_n 0) 1 := by decide +kernel
theorem d9_33 : oQ oD24 33 (.getfield 47) 3 := by decide +kernel
theorem d9_36 : oQ oD24 36 (.iload_n 3) 1 := by decide +kernel
theorem d9_37 : oQ oD24 37 (.sipush 1024) 3 := by decide +kernel
theorem d9_40 : oQ oD24 40 .imul 1 := by decide +kernel
theorem d9_41 : oQ oD24 41 (.iload 4) 2 := by decide +kernel
theorem d9_43 : oQ oD24 43 (.iconst 0) 1 := by decide +kernel
theorem d9_44 : oQ oD24 44 (.invokestatic 74) 3 := by decide +kernel
theorem d9_47 : oQ oD24 47 (.aload_n 0) 1 := by decide +kernel
theorem d9_48 : oQ oD24 48 (.getfield 51) 3 := by decide +kernel
theorem d9_51 : oQ oD24 51 (.iload_n 3) 1 := by decide +kernel
theorem d9_52 : oQ oD24 52 (.sipush 1024) 3 := by decide +kernel
theorem d9_55 : oQ oD24 55 .imul 1 := by decide +kernel
theorem d9_56 : oQ oD24 56 (.iload 4) 2 := by decide +kernel
theorem d9_58 : oQ oD24 58 (.iconst 0) 1 := by decide +kernel
theorem d9_59 : oQ oD24 59 (.invokestatic 74) 3 := by decide +kernel
theorem d9_62 : oQ oD24 62 (.iinc 2 1) 3 := by decide +kernel
theorem d9_65 : oQ oD24 65 (.goto (-63)) 3 := by decide +kernel
def Qrm9u (Z : State) (r0 : Addr) (p1 : Int32) (n : Int32) (ob : Addr) (rv : Addr) (dl : Int32) (vS : Value) (vM : Value) (fa : Addr) (ea : Addr) (v0 : Value) (v1 : Value) (Da : List Addr) (Db : List Addr) (La : List Int32) (Lb : List Int32) (wd : Addr) (hd : Addr) (il : Addr) (ix : Addr) (fi : Nat → Int32) (fw : Nat → Int64) (fh : Nat → Int32) (fF0 : Nat → Int32) (eF0 : Nat → Int32) (h0 : Heap) (n0 : Nat) (v : Option Value) (h : Heap) (L : List Loc) : Prop := ∃ fy : Addr, ∃ ey : Addr, v = some (.int (own_dr La Lb)) ∧ Fr n0 L ∧ h0.size ≤ h.size ∧ Exa Z h r0 oC0 ∧ Fld Z h r0 oC0 "first" "[I" (.ref fy) ∧ Fld Z h r0 oC0 "end" "[I" (.ref ey) ∧ own_Arf Z h fy .int n (fun i => .int ((own_FF La Lb) i)) ∧ own_Arf Z h ey .int n (fun i => .int ((own_EE La Lb) i))
set_option maxRecDepth 65536 in
set_option maxHeartbeats 40000000 in
theorem rm9u (l : Launch) (Z : State) (a0 : Array Value) (hw : oH Z a0) (ws : List Jvm.Cond) (r0 : Addr) (p1 : Int32) (n : Int32) (ob : Addr) (rv : Addr) (dl : Int32) (vS : Value) (vM : Value) (fa : Addr) (ea : Addr) (v0 : Value) (v1 : Value) (Da : List Addr) (Db : List Addr) (La : List Int32) (Lb : List Int32) (wd : Addr) (hd : Addr) (il : Addr) (ix : Addr) (fi : Nat → Int32) (fw : Nat → Int64) (fh : Nat → Int32) (fF0 : Nat → Int32) (eF0 : Nat → Int32) (h0 : Heap) (n0 : Nat) (Z0 : n0 ≤ h0.size) (E_r0_0 : Exa Z h0 r0 oC0) (F_receivers_r0_0 : Fld Z h0 r0 oC0 "receivers" "I" (.int n)) (F_outboxes_r0_0 : Fld Z h0 r0 oC0 "outboxes" oC4 (.ref ob)) (F_recipients_r0_0 : Fld Z h0 r0 oC0 "recipients" oC6 (.ref rv)) (F_delivered_r0_0 : Fld Z h0 r0 oC0 "delivered" "I" (.int dl)) (F_senders_r0_0 : Fld Z h0 r0 oC0 "senders" "[I" vS) (F_messages_r0_0 : Fld Z h0 r0 oC0 "messages" "[J" vM) (F_first_r0_0 : Fld Z h0 r0 oC0 "first" "[I" (.ref fa)) (F_end_r0_0 : Fld Z h0 r0 oC0 "end" "[I" (.ref ea)) (O_ob_0 : own_Oa Z h0 ob oC2 v0 v1) (B_0_0 : own_Box Z h0 n0 v0 Da La) (B_1_0 : own_Box Z h0 n0 v1 Db Lb) (E_rv_0 : Exa Z h0 rv oC1) (F_words_rv_0 : Fld Z h0 rv oC1 "words" "[J" (.ref wd)) (F_held_rv_0 : Fld Z h0 rv oC1 "held" "[Z" (.ref hd)) (F_blocks_rv_0 : Fld Z h0 rv oC1 "blocks" oC5 (.ref il)) (F_sorted_rv_0 : Fld Z h0 rv oC1 "sorted" "Z" (.int 1)) (E_il_0 : Exa Z h0 il oC3) (F_indices_il_0 : Fld Z h0 il oC3 "indices" "[I" (.ref ix)) (F_size_il_0 : Fld Z h0 il oC3 "size" "I" (.int 1)) (A_ix_0 : own_Arf Z h0 ix .int (16 : Int32) (fun i => .int (fi i))) (A_wd_0 : own_Arf Z h0 wd .long (16 : Int32) (fun i => .long (fw i))) (A_hd_0 : own_Arf Z h0 hd .boolean (1 : Int32) (fun i => .int (fh i))) (A_fa_0 : own_Arf Z h0 fa .int n (fun i => .int (fF0 i))) (A_ea_0 : own_Arf Z h0 ea .int n (fun i => .int (eF0 i))) (ne_fa_ea : fa ≠ ea) (ne_ix_fa : ix ≠ fa) (ne_ix_ea : ix ≠ ea) (hfi : fi 0 = 0) (ge_r0 : n0 ≤ r0) (ge_rv : n0 ≤ rv) (ge_wd : n0 ≤ wd) (ge_hd : n0 ≤ hd) (ge_il : n0 ≤ il) (ge_ix : n0 ≤ ix) (ge_fa : n0 ≤ fa) (ge_ea : n0 ≤ ea) (nb_r0_0 : r0 ∉ Da) (nb_r0_1 : r0 ∉ Db) (nb_rv_0 : rv ∉ Da) (nb_rv_1 : rv ∉ Db) (nb_wd_0 : wd ∉ Da) (nb_wd_1 : wd ∉ Db) (nb_hd_0 : hd ∉ Da) (nb_hd_1 : hd ∉ Db) (nb_il_0 : il ∉ Da) (nb_il_1 : il ∉ Db) (nb_ix_0 : ix ∉ Da) (nb_ix_1 : ix ∉ Db) (nb_fa_0 : fa ∉ Da) (nb_fa_1 : fa ∉ Db) (nb_ea_0 : ea ∉ Da) (nb_ea_1 : ea ∉ Db) (hdj : ∀ x ∈ Da, x ∉ Db) (hn : own_n14 n) (hl : La.length + Lb.length ≤ 3) (hm : ∀ r ∈ La ++ Lb, own_in r n) :
    MetFree l oM24 (head1 (Jvm.Cond.code oM24 prog_18_method_9_code 11 (some .boolean) :: ws) rm9t_room) (fun a U => a = #[(.ref r0), (.int p1)] ∧ Z.Warmed39 U.vm ∧ U.heap = h0) (fun _ _ _ _ _ => True) (fun _ U o U' => ∃ v L, o = .returned v ∧ Qrm9u Z r0 p1 n ob rv dl vS vM fa ea v0 v1 Da Db La Lb wd hd il ix fi fw fh fF0 eF0 h0 n0 v U'.heap L ∧ FrameEnd U o U' L rm9t_room.cells rm9t_room.slots) := by
 refine MetFree.of_bodySF (plainFor_of_name pn_9) hisR ?_
 intro p e s m args below meth c s₁ Bd hml0 hP hK
 obtain ⟨rfl, hZ, hh⟩ := hP
 have hx := Bd.exec
 have hby := Bd.bytes
 have hml : c.maxLocals = 11 := hml0
 have hown : s.vm.findClass oC0 = some m.cls := findClass_of_methodNamed Bd.named
 have hnm := (name_of_methodNamed Bd.named Bd.method).1
 have hlk : meth.locks = false := BodyLoose.notSynchronized Bd
 have X0 : Stand p l e rm9t_room s m #[(.ref r0), (.int p1)] below meth c s₁ [] 0 0 := Stand.of_body Bd
 have e0 : s₁.heap = h0 := by rw [← hh, Bd.state]; rfl
 have N0 := Fr.nil n0
 show own_Fin p.tables e below s (Qrm9u Z r0 p1 n ob rv dl vS vM fa ea v0 v1 Da Db La Lb wd hd il ix fi fw fh fF0 eF0 h0 n0) rm9t_room.cells rm9t_room.slots (s₁.setTop (entryFrame m #[(.ref r0), (.int p1)] 11))
 rw [ef_9]
 show oF (s₁.setTop (mkF m 0 #[oR r0, oI p1, oU, oU, oU, oU, oU, oU, oU, oU, oU] []))
 have hdk : ∀ x ∈ Db, x ∉ Da := fun x h1 h0 => hdj x h0 h1
 refine own_go (fun _ k => XS.iconst X0.here hx rfl (hb hby d9_0) (XS.istoreN X0.here hx rfl (hb hby d9_1) rfl (l' := #[oR r0, oI p1, oI 0, oU, oU, oU, oU, oU, oU, oU, oU]) rfl (XS.iloadN X0.here hx rfl (hb hby d9_2) rfl (XS.aloadN X0.here hx rfl (hb hby d9_3) rfl rfl k)))) ?_
 obtain ⟨T1, X1, e1, st1⟩ := getF X0 hx hZ hown (host := "") (Or.inl (oW hw 57 rfl)) Via.refl e0 F_recipients_r0_0 (g := (mkF m 4 #[oR r0, oI p1, oI 0, oU, oU, oU, oU, oU, oU, oU, oU] [(.ref r0), (.int 0)])) rfl rfl (hb hby d9_4)
 refine own_go (fun tg k => st1 tg k) ?_
 obtain ⟨cq2, kq2, q2a, q2b, q2c⟩ := isOf hZ e1 E_rv_0
 obtain ⟨_, _, ⟨T2, L2, k2, n2⟩, -, X2, ⟨Lc2, hQ2, l2, y2, z2⟩, st2⟩ := X1.virtualBack hx (y := oM11) (z := oM11) hown (mvT hZ (oW hw 91 rfl)) (mvT hZ (oW hw 92 rfl)) (notFace_of_selects (args := #[]) (mvT hZ (oW hw 94 rfl))) (mvT hZ (oW hw 94 rfl)) (mvT hZ (oW hw 93 rfl)) (by decide) (backOf (W := 1) (rm10 l Z a0 hw [] rv il (1 : Int32) h0 n0 Z0 F_blocks_rv_0 E_il_0 F_size_il_0) hZ (oW hw 95 rfl) (oW hw 28 rfl) (by decide) (by decide)) q2a q2c (g := (mkF m 7 #[oR r0, oI p1, oI 0, oU, oU, oU, oU, oU, oU, oU, oU] [(.ref rv), (.int 0)])) rfl (by rw [hml]; rfl) (Steps.refl _) (argsL := []) (rest := [(.int 0)]) (lenOf own_pd194 rfl) rfl (by show 2 * 0 + _ ≤ _; exact Nat.le_of_eq rfl) (hb hby d9_7) (fun _ _ => ⟨rfl, e1, (by decide : 0 + 0 ≤ _), (by decide : 0 + 0 ≤ _)⟩)
 dsimp only [Pt.U, Pt.locs, Pt.cells, Pt.slots] at X2 l2 y2 z2 st2 hQ2
 replace y2 : 0 = k2 := y2.symm
 replace z2 : 0 = n2 := z2.symm
 subst y2 z2
 obtain ⟨rfl, N2q, e2⟩ := hQ2
 have N2 : Fr n0 L2 := by rw [l2]; exact Fr.app N0 N2q
 refine own_go (fun tg k => st2.trans k) ?_
 show oF (T2.setTop (mkF m 10 #[oR r0, oI p1, oI 0, oU, oU, oU, oU, oU, oU, oU, oU] [(.int 1), (.int 0)]))
 refine own_go (fun _ k => XS.icmpNo X2.here hx rfl (hb hby d9_10) rfl (tlt (by decide)).2.1 (XS.aloadN X2.here hx rfl (hb hby d9_13) rfl rfl k)) ?_
 obtain ⟨T3, X3, e3, st3⟩ := getF X2 hx hZ hown (host := "") (Or.inl (oW hw 57 rfl)) Via.refl e2 F_recipients_r0_0 (g := (mkF m 14 #[oR r0, oI p1, oI 0, oU, oU, oU, oU, oU, oU, oU, oU] [(.ref r0)])) rfl rfl (hb hby d9_14)
 refine own_go (fun tg k => st3 tg k) ?_
 refine own_go (fun _ k => XS.iloadN X3.here hx rfl (hb hby d9_17) rfl k) ?_
 obtain ⟨cq4, kq4, q4a, q4b, q4c⟩ := isOf hZ e3 E_rv_0
 obtain ⟨_, _, ⟨T4, L4, k4, n4⟩, -, X4, ⟨Lc4, hQ4, l4, y4, z4⟩, st4⟩ := X3.virtualBack hx (y := oM13) (z := oM13) hown (mvT hZ (oW hw 145 rfl)) (mvT hZ (oW hw 146 rfl)) (notFace_of_selects (args := #[]) (mvT hZ (oW hw 148 rfl))) (mvT hZ (oW hw 148 rfl)) (mvT hZ (oW hw 147 rfl)) (by decide) (backOf (W := 0) (rm18 l Z a0 hw [] rv il ix fi h0 n0 Z0 F_sorted_rv_0 F_blocks_rv_0 E_il_0 F_indices_il_0 A_ix_0) hZ (oW hw 149 rfl) (oW hw 28 rfl) (by decide) (by decide)) q4a q4c (g := (mkF m 18 #[oR r0, oI p1, oI 0, oU, oU, oU, oU, oU, oU, oU, oU] [(.int 0), (.ref rv)])) rfl (by rw [hml]; rfl) (Steps.refl _) (argsL := [(.int 0)]) (rest := []) (lenOf own_pd90 rfl) rfl (by show 2 * 0 + _ ≤ _; exact Nat.le_of_eq rfl) (hb hby d9_18) (fun _ _ => ⟨rfl, e3, (by decide : 0 + 0 ≤ _), (by decide : 0 + 0 ≤ _)⟩)
 dsimp only [Pt.U, Pt.locs, Pt.cells, Pt.slots] at X4 l4 y4 z4 st4 hQ4
 replace y4 : 0 = k4 := y4.symm
 replace z4 : 0 = n4 := z4.symm
 subst y4 z4
 obtain ⟨rfl, N4q, e4⟩ := hQ4
 have N4 : Fr n0 L4 := by rw [l4]; exact Fr.app N2 N4q
 refine own_go (fun tg k => st4.trans k) ?_
 show oF (T4.setTop (mkF m 21 #[oR r0, oI p1, oI 0, oU, oU, oU, oU, oU, oU, oU, oU] [(.int (fi 0))]))
 have hr5 : (fi 0) = (0 : Int32) := hfi
 rw [hr5]
 show oF (T4.setTop (mkF m 21 #[oR r0, oI p1, oI 0, oU, oU, oU, oU, oU, oU, oU, oU] [(.int 0)]))
 refine own_go (fun _ k => XS.istoreN X4.here hx rfl (hb hby d9_21) rfl (l' := #[oR r0, oI p1, oI 0, oI 0, oU, oU, oU, oU, oU, oU, oU]) rfl (XS.iloadN X4.here hx rfl (hb hby d9_22) rfl (XS.aloadN X4.here hx rfl (hb hby d9_23) rfl rfl k))) ?_
 obtain ⟨T6, X6, e6, st6⟩ := getF X4 hx hZ hown (host := "") (Or.inl (oW hw 18 rfl)) Via.refl e4 F_receivers_r0_0 (g := (mkF m 24 #[oR r0, oI p1, oI 0, oI 0, oU, oU, oU, oU, oU, oU, oU] [(.ref r0), (.int 0)])) rfl rfl (hb hby d9_24)
 refine own_go (fun tg k => st6 tg k) ?_
 obtain ⟨_, _, ⟨T7, L7, k7, n7⟩, -, X7, ⟨Lc7, hQ7, l7, y7, z7⟩, st7⟩ := Jvm.LawKit.callS X6 hx (y := oM2) hown (mvT hZ (oW hw 191 rfl)) (mvT hZ (oW hw 192 rfl)) (mvT hZ (oW hw 31 rfl)) (mvT hZ (oW hw 193 rfl)) (by decide) (backOf (W := 0) (rm28 l Z a0 hw [] (0 : Int32) n h0 n0 Z0) hZ (oW hw 193 rfl) (oW hw 31 rfl) (by decide) (by decide)) (g := (mkF m 27 #[oR r0, oI p1, oI 0, oI 0, oU, oU, oU, oU, oU, oU, oU] [(.int n), (.int 0)])) rfl (by rw [hml]; rfl) (argsL := [(.int 0), (.int n)]) (rest := []) (lenOf own_pd504 rfl) rfl (by show 2 * 0 + _ ≤ _; exact Nat.le_of_eq rfl) (hb hby d9_27) (fun _ _ => ⟨rfl, e6, (by decide : 0 + 0 ≤ _), (by decide : 0 + 0 ≤ _)⟩)
 dsimp only [Pt.U, Pt.locs, Pt.cells, Pt.slots] at X7 l7 y7 z7 st7 hQ7
 replace y7 : 0 = k7 := y7.symm
 replace z7 : 0 = n7 := z7.symm
 subst y7 z7
 obtain ⟨rfl, N7q, e7⟩ := hQ7
 have N7 : Fr n0 L7 := by rw [l7]; exact Fr.app N4 N7q
 refine own_go (fun tg k => st7 tg k) ?_
 show oF (T7.setTop (mkF m 30 #[oR r0, oI p1, oI 0, oI 0, oU, oU, oU, oU, oU, oU, oU] [(.int (own_f28 (0 : Int32) n))]))
 have hr8 : (own_f28 (0 : Int32) n) = n := (own_be hn)
 rw [hr8]
 show oF (T7.setTop (mkF m 30 #[oR r0, oI p1, oI 0, oI 0, oU, oU, oU, oU, oU, oU, oU] [(.int n)]))
 refine own_go (fun _ k => XS.istore X7.here hx rfl (hb hby d9_30) rfl (l' := #[oR r0, oI p1, oI 0, oI 0, oI n, oU, oU, oU, oU, oU, oU]) rfl (XS.aloadN X7.here hx rfl (hb hby d9_32) rfl rfl k)) ?_
 obtain ⟨T9, X9, e9, st9⟩ := getF X7 hx hZ hown (host := "") (Or.inl (oW hw 121 rfl)) Via.refl e7 F_first_r0_0 (g := (mkF m 33 #[oR r0, oI p1, oI 0, oI 0, oI n, oU, oU, oU, oU, oU, oU] [(.ref r0)])) rfl rfl (hb hby d9_33)
 refine own_go (fun tg k => st9 tg k) ?_
 refine own_go (fun _ k => XS.iloadN X9.here hx rfl (hb hby d9_36) rfl (XS.sipush X9.here hx rfl (hb hby d9_37) (XS.imul X9.here hx rfl (hb hby d9_40) rfl k))) ?_
 show oF (T9.setTop (mkF m 41 #[oR r0, oI p1, oI 0, oI 0, oI n, oU, oU, oU, oU, oU, oU] [(.int 0), (.ref fa)]))
 refine own_go (fun _ k => XS.iload X9.here hx rfl (hb hby d9_41) rfl (XS.iconst X9.here hx rfl (hb hby d9_43) k)) ?_
 obtain ⟨_, _, ⟨T10, L10, k10, n10⟩, -, X10, ⟨Lc10, hQ10, l10, y10, z10⟩, st10⟩ := Jvm.LawKit.callS X9 hx (y := oM15) hown (mvT hZ (oW hw 199 rfl)) (mvT hZ (oW hw 200 rfl)) (mvT hZ (oW hw 201 rfl)) (mvT hZ (oW hw 202 rfl)) (by decide) (backOf (W := 0) (rm30 l Z a0 hw [] fa n (0 : Int32) fF0 h0 n0 Z0 A_fa_0 ge_fa) hZ (oW hw 202 rfl) (oW hw 201 rfl) (by decide) (by decide)) (g := (mkF m 44 #[oR r0, oI p1, oI 0, oI 0, oI n, oU, oU, oU, oU, oU, oU] [(.int 0), (.int n), (.int 0), (.ref fa)])) rfl (by rw [hml]; rfl) (argsL := [(.ref fa), (.int 0), (.int n), (.int 0)]) (rest := []) (lenOf own_pd787 rfl) rfl (by show 2 * 0 + _ ≤ _; exact Nat.le_of_eq rfl) (hb hby d9_44) (fun _ _ => ⟨rfl, e9, (by decide : 0 + 0 ≤ _), (by decide : 0 + 0 ≤ _)⟩)
 dsimp only [Pt.U, Pt.locs, Pt.cells, Pt.slots] at X10 l10 y10 z10 st10 hQ10
 replace y10 : 0 = k10 := y10.symm
 replace z10 : 0 = n10 := z10.symm
 subst y10 z10
 obtain ⟨rfl, N10q, Kq10, A_fa_10⟩ := hQ10
 have N10 : Fr n0 L10 := by rw [l10]; exact Fr.app N7 N10q
 have E_r0_10 := E_r0_0.keep Kq10
 have u10_r0 := (ninS (own_ne_arf E_r0_0 (oW hw 2 rfl) A_fa_0) nin0)
 have F_receivers_r0_10 := F_receivers_r0_0.keep Kq10 u10_r0
 have F_outboxes_r0_10 := F_outboxes_r0_0.keep Kq10 u10_r0
 have F_recipients_r0_10 := F_recipients_r0_0.keep Kq10 u10_r0
 have F_delivered_r0_10 := F_delivered_r0_0.keep Kq10 u10_r0
 have F_senders_r0_10 := F_senders_r0_0.keep Kq10 u10_r0
 have F_messages_r0_10 := F_messages_r0_0.keep Kq10 u10_r0
 have F_first_r0_10 := F_first_r0_0.keep Kq10 u10_r0
 have F_end_r0_10 := F_end_r0_0.keep Kq10 u10_r0
 have O_ob_10 := O_ob_0.keep Kq10 (ninS (Ne.symm (own_ne_oarf A_fa_0 O_ob_0 (by decide))) nin0)
 have B_0_10 := B_0_0.keep Kq10 (allS nb_fa_0 all0)
 have B_1_10 := B_1_0.keep Kq10 (allS nb_fa_1 all0)
 have E_rv_10 := E_rv_0.keep Kq10
 have u10_rv := (ninS (own_ne_arf E_rv_0 (oW hw 27 rfl) A_fa_0) nin0)
 have F_words_rv_10 := F_words_rv_0.keep Kq10 u10_rv
 have F_held_rv_10 := F_held_rv_0.keep Kq10 u10_rv
 have F_blocks_rv_10 := F_blocks_rv_0.keep Kq10 u10_rv
 have F_sorted_rv_10 := F_sorted_rv_0.keep Kq10 u10_rv
 have E_il_10 := E_il_0.keep Kq10
 have u10_il := (ninS (own_ne_arf E_il_0 (oW hw 38 rfl) A_fa_0) nin0)
 have F_indices_il_10 := F_indices_il_0.keep Kq10 u10_il
 have F_size_il_10 := F_size_il_0.keep Kq10 u10_il
 have A_ix_10 := A_ix_0.keep Kq10 (ninS ne_ix_fa nin0)
 have A_wd_10 := A_wd_0.keep Kq10 (ninS (own_ne_ty A_wd_0 A_fa_0 (by decide)) nin0)
 have A_hd_10 := A_hd_0.keep Kq10 (ninS (own_ne_ty A_hd_0 A_fa_0 (by decide)) nin0)
 have A_ea_10 := A_ea_0.keep Kq10 (ninS (Ne.symm ne_fa_ea) nin0)
 have Z10 : n0 ≤ T10.heap.size := Nat.le_trans Z0 Kq10.1
 refine own_go (fun tg k => st10 tg k) ?_
 show oF (T10.setTop (mkF m 47 #[oR r0, oI p1, oI 0, oI 0, oI n, oU, oU, oU, oU, oU, oU] []))
 refine own_go (fun _ k => XS.aloadN X10.here hx rfl (hb hby d9_47) rfl rfl k) ?_
 obtain ⟨T11, X11, e11, st11⟩ := getF X10 hx hZ hown (host := "") (Or.inl (oW hw 123 rfl)) Via.refl rfl F_end_r0_10 (g := (mkF m 48 #[oR r0, oI p1, oI 0, oI 0, oI n, oU, oU, oU, oU, oU, oU] [(.ref r0)])) rfl rfl (hb hby d9_48)
 refine own_go (fun tg k => st11 tg k) ?_
 refine own_go (fun _ k => XS.iloadN X11.here hx rfl (hb hby d9_51) rfl (XS.sipush X11.here hx rfl (hb hby d9_52) (XS.imul X11.here hx rfl (hb hby d9_55) rfl k))) ?_
 show oF (T11.setTop (mkF m 56 #[oR r0, oI p1, oI 0, oI 0, oI n, oU, oU, oU, oU, oU, oU] [(.int 0), (.ref ea)]))
 refine own_go (fun _ k => XS.iload X11.here hx rfl (hb hby d9_56) rfl (XS.iconst X11.here hx rfl (hb hby d9_58) k)) ?_
 obtain ⟨_, _, ⟨T12, L12, k12, n12⟩, -, X12, ⟨Lc12, hQ12, l12, y12, z12⟩, st12⟩ := Jvm.LawKit.callS X11 hx (y := oM15) hown (mvT hZ (oW hw 199 rfl)) (mvT hZ (oW hw 200 rfl)) (mvT hZ (oW hw 201 rfl)) (mvT hZ (oW hw 202 rfl)) (by decide) (backOf (W := 0) (rm30 l Z a0 hw [] ea n (0 : Int32) eF0 T10.heap n0 Z10 A_ea_10 ge_ea) hZ (oW hw 202 rfl) (oW hw 201 rfl) (by decide) (by decide)) (g := (mkF m 59 #[oR r0, oI p1, oI 0, oI 0, oI n, oU, oU, oU, oU, oU, oU] [(.int 0), (.int n), (.int 0), (.ref ea)])) rfl (by rw [hml]; rfl) (argsL := [(.ref ea), (.int 0), (.int n), (.int 0)]) (rest := []) (lenOf own_pd787 rfl) rfl (by show 2 * 0 + _ ≤ _; exact Nat.le_of_eq rfl) (hb hby d9_59) (fun _ _ => ⟨rfl, e11, (by decide : 0 + 0 ≤ _), (by decide : 0 + 0 ≤ _)⟩)
 dsimp only [Pt.U, Pt.locs, Pt.cells, Pt.slots] at X12 l12 y12 z12 st12 hQ12
 replace y12 : 0 = k12 := y12.symm
 replace z12 : 0 = n12 := z12.symm
 subst y12 z12
 obtain ⟨rfl, N12q, Kq12, A_ea_12⟩ := hQ12
 have N12 : Fr n0 L12 := by rw [l12]; exact Fr.app N10 N12q
 have E_r0_12 := E_r0_10.keep Kq12
 have u12_r0 := (ninS (own_ne_arf E_r0_10 (oW hw 2 rfl) A_ea_10) nin0)
 have F_receivers_r0_12 := F_receivers_r0_10.keep Kq12 u12_r0
 have F_outboxes_r0_12 := F_outboxes_r0_10.keep Kq12 u12_r0
 have F_recipients_r0_12 := F_recipients_r0_10.keep Kq12 u12_r0
 have F_delivered_r0_12 := F_delivered_r0_10.keep Kq12 u12_r0
 have F_senders_r0_12 := F_senders_r0_10.keep Kq12 u12_r0
 have F_messages_r0_12 := F_messages_r0_10.keep Kq12 u12_r0
 have F_first_r0_12 := F_first_r0_10.keep Kq12 u12_r0
 have F_end_r0_12 := F_end_r0_10.keep Kq12 u12_r0
 have O_ob_12 := O_ob_10.keep Kq12 (ninS (Ne.symm (own_ne_oarf A_ea_10 O_ob_10 (by decide))) nin0)
 have B_0_12 := B_0_10.keep Kq12 (allS nb_ea_0 all0)
 have B_1_12 := B_1_10.keep Kq12 (allS nb_ea_1 all0)
 have E_rv_12 := E_rv_10.keep Kq12
 have u12_rv := (ninS (own_ne_arf E_rv_10 (oW hw 27 rfl) A_ea_10) nin0)
 have F_words_rv_12 := F_words_rv_10.keep Kq12 u12_rv
 have F_held_rv_12 := F_held_rv_10.keep Kq12 u12_rv
 have F_blocks_rv_12 := F_blocks_rv_10.keep Kq12 u12_rv
 have F_sorted_rv_12 := F_sorted_rv_10.keep Kq12 u12_rv
 have E_il_12 := E_il_10.keep Kq12
 have u12_il := (ninS (own_ne_arf E_il_10 (oW hw 38 rfl) A_ea_10) nin0)
 have F_indices_il_12 := F_indices_il_10.keep Kq12 u12_il
 have F_size_il_12 := F_size_il_10.keep Kq12 u12_il
 have A_ix_12 := A_ix_10.keep Kq12 (ninS ne_ix_ea nin0)
 have A_wd_12 := A_wd_10.keep Kq12 (ninS (own_ne_ty A_wd_10 A_ea_10 (by decide)) nin0)
 have A_hd_12 := A_hd_10.keep Kq12 (ninS (own_ne_ty A_hd_10 A_ea_10 (by decide)) nin0)
 have A_fa_12 := A_fa_10.keep Kq12 (ninS ne_fa_ea nin0)
 have Z12 : n0 ≤ T12.heap.size := Nat.le_trans Z10 Kq12.1
 refine own_go (fun tg k => st12 tg k) ?_
 show oF (T12.setTop (mkF m 62 #[oR r0, oI p1, oI 0, oI 0, oI n, oU, oU, oU, oU, oU, oU] []))
 refine own_go (fun _ k => XS.iinc X12.here hx rfl (hb hby d9_62) rfl (l' := #[oR r0, oI p1, oI 1, oI 0, oI n, oU, oU, oU, oU, oU, oU]) rfl k) ?_
 show oF (T12.setTop (mkF m 65 #[oR r0, oI p1, oI 1, oI 0, oI n, oU, oU, oU, oU, oU, oU] []))
 refine own_go (fun _ k => XS.goto X12.here hx rfl (pc0 := 65) (pc' := 2) rfl (hb hby d9_65) (by decide) (by decide) (XS.iloadN X12.here hx rfl (hb hby d9_2) rfl (XS.aloadN X12.here hx rfl (hb hby d9_3) rfl rfl k))) ?_
 obtain ⟨T13, X13, e13, st13⟩ := getF X12 hx hZ hown (host := "") (Or.inl (oW hw 57 rfl)) Via.refl rfl F_recipients_r0_12 (g := (mkF m 4 #[oR r0, oI p1, oI 1, oI 0, oI n, oU, oU, oU, oU, oU, oU] [(.ref r0), (.int 1)])) rfl rfl (hb hby d9_4)
 refine own_go (fun tg k => st13 tg k) ?_
 obtain ⟨cq14, kq14, q14a, q14b, q14c⟩ := isOf hZ e13 E_rv_12
 obtain ⟨_, _, ⟨T14, L14, k14, n14⟩, -, X14, ⟨Lc14, hQ14, l14, y14, z14⟩, st14⟩ := X13.virtualBack hx (y := oM11) (z := oM11) hown (mvT hZ (oW hw 91 rfl)) (mvT hZ (oW hw 92 rfl)) (notFace_of_selects (args := #[]) (mvT hZ (oW hw 94 rfl))) (mvT hZ (oW hw 94 rfl)) (mvT hZ (oW hw 93 rfl)) (by decide) (backOf (W := 1) (rm10 l Z a0 hw [] rv il (1 : Int32) T12.heap n0 Z12 F_blocks_rv_12 E_il_12 F_size_il_12) hZ (oW hw 95 rfl) (oW hw 28 rfl) (by decide) (by decide)) q14a q14c (g := (mkF m 7 #[oR r0, oI p1, oI 1, oI 0, oI n, oU, oU, oU, oU, oU, oU] [(.ref rv), (.int 1)])) rfl (by rw [hml]; rfl) (Steps.refl _) (argsL := []) (rest := [(.int 1)]) (lenOf own_pd194 rfl) rfl (by show 2 * 0 + _ ≤ _; exact Nat.le_of_eq rfl) (hb hby d9_7) (fun _ _ => ⟨rfl, e13, (by decide : 0 + 0 ≤ _), (by decide : 0 + 0 ≤ _)⟩)
 dsimp only [Pt.U, Pt.locs, Pt.cells, Pt.slots] at X14 l14 y14 z14 st14 hQ14
 replace y14 : 0 = k14 := y14.symm
 replace z14 : 0 = n14 := z14.symm
 subst y14 z14
 obtain ⟨rfl, N14q, e14⟩ := hQ14
 have N14 : Fr n0 L14 := by rw [l14]; exact Fr.app N12 N14q
 refine own_go (fun tg k => st14.trans k) ?_
 show oF (T14.setTop (mkF m 10 #[oR r0, oI p1, oI 1, oI 0, oI n, oU, oU, oU, oU, oU, oU] [(.int 1), (.int 1)]))
 refine own_go (fun _ k => XS.icmpYes X14.here hx rfl (pc0 := 10) (pc' := 68) rfl (hb hby d9_10) rfl (flt (by decide)).2.1 (by decide) (by decide) k) ?_
 show oF (T14.setTop (mkF m 68 #[oR r0, oI p1, oI 1, oI 0, oI n, oU, oU, oU, oU, oU, oU] []))
 refine own_go (fun _ k => XS.aloadN X14.here hx rfl (hb hby d9_68) rfl rfl k) ?_
 obtain ⟨T15, X15, e15, st15⟩ := getF X14 hx hZ hown (host := "") (Or.inl (oW hw 57 rfl)) Via.refl e14 F_recipients_r0_12 (g := (mkF m 69 #[oR r0, oI p1, oI 1, oI 0, oI n, oU, oU, oU, oU, oU, oU] [(.ref r0)])) rfl rfl (hb hby d9_69)
 refine own_go (fun tg k => st15 tg k) ?_
 obtain ⟨cq16, kq16, q16a, q16b, q16c⟩ := isOf hZ e15 E_rv_12
 obtain ⟨_, _, ⟨T16, L16, k16, n16⟩, -, X16, ⟨Lc16, hQ16, l16, y16, z16⟩, st16⟩ := X15.virtualBack hx (y := oM17) (z := oM17) hown (mvT hZ (oW hw 103 rfl)) (mvT hZ (oW hw 104 rfl)) (notFace_of_selects (args := #[]) (mvT hZ (oW hw 106 rfl))) (mvT hZ (oW hw 106 rfl)) (mvT hZ (oW hw 105 rfl)) (by decide) (backOf (W := 0) (rm12o l Z a0 hw [] rv wd hd il ix fi fw fh T12.heap n0 Z12 E_rv_12 F_words_rv_12 F_held_rv_12 F_blocks_rv_12 F_sorted_rv_12 E_il_12 F_indices_il_12 F_size_il_12 A_ix_12 A_wd_12 A_hd_12 ge_rv ge_wd ge_hd ge_il ge_ix hfi) hZ (oW hw 107 rfl) (oW hw 28 rfl) (by decide) (by decide)) q16a q16c (g := (mkF m 72 #[oR r0, oI p1, oI 1, oI 0, oI n, oU, oU, oU, oU, oU, oU] [(.ref rv)])) rfl (by rw [hml]; rfl) (Steps.refl _) (argsL := []) (rest := []) (lenOf own_pd158 rfl) rfl (by show 2 * 0 + _ ≤ _; exact Nat.le_of_eq rfl) (hb hby d9_72) (fun _ _ => ⟨rfl, e15, (by decide : 0 + 0 ≤ _), (by decide : 0 + 0 ≤ _)⟩)
 dsimp only [Pt.U, Pt.locs, Pt.cells, Pt.slots] at X16 l16 y16 z16 st16 hQ16
 replace y16 : 0 = k16 := y16.symm
 replace z16 : 0 = n16 := z16.symm
 subst y16 z16
 obtain ⟨rfl, N16q, Kq16, E_rv_16, F_words_rv_16, F_held_rv_16, F_blocks_rv_16, F_sorted_rv_16, E_il_16, F_indices_il_16, F_size_il_16, A_wd_16, A_hd_16⟩ := hQ16
 have N16 : Fr n0 L16 := by rw [l16]; exact Fr.app N14 N16q
 have E_r0_16 := E_r0_12.keep Kq16
 have u16_r0 := (ninS (ne_exa E_r0_12 E_rv_12 (by decide)) (ninS (own_ne_arf E_r0_12 (oW hw 2 rfl) A_wd_12) (ninS (own_ne_arf E_r0_12 (oW hw 2 rfl) A_hd_12) (ninS (ne_exa E_r0_12 E_il_12 (by decide)) nin0))))
 have F_receivers_r0_16 := F_receivers_r0_12.keep Kq16 u16_r0
 have F_outboxes_r0_16 := F_outboxes_r0_12.keep Kq16 u16_r0
 have F_recipients_r0_16 := F_recipients_r0_12.keep Kq16 u16_r0
 have F_delivered_r0_16 := F_delivered_r0_12.keep Kq16 u16_r0
 have F_senders_r0_16 := F_senders_r0_12.keep Kq16 u16_r0
 have F_messages_r0_16 := F_messages_r0_12.keep Kq16 u16_r0
 have F_first_r0_16 := F_first_r0_12.keep Kq16 u16_r0
 have F_end_r0_16 := F_end_r0_12.keep Kq16 u16_r0
 have O_ob_16 := O_ob_12.keep Kq16 (ninS (Ne.symm (own_ne_oa E_rv_12 (oW hw 27 rfl) O_ob_12)) (ninS (Ne.symm (own_ne_oarf A_wd_12 O_ob_12 (by decide))) (ninS (Ne.symm (own_ne_oarf A_hd_12 O_ob_12 (by decide))) (ninS (Ne.symm (own_ne_oa E_il_12 (oW hw 38 rfl) O_ob_12)) nin0))))
 have B_0_16 := B_0_12.keep Kq16 (allS nb_rv_0 (allS nb_wd_0 (allS nb_hd_0 (allS nb_il_0 all0))))
 have B_1_16 := B_1_12.keep Kq16 (allS nb_rv_1 (allS nb_wd_1 (allS nb_hd_1 (allS nb_il_1 all0))))
 have A_ix_16 := A_ix_12.keep Kq16 (ninS (Ne.symm (own_ne_arf E_rv_12 (oW hw 27 rfl) A_ix_12)) (ninS (own_ne_ty A_ix_12 A_wd_12 (by decide)) (ninS (own_ne_ty A_ix_12 A_hd_12 (by decide)) (ninS (Ne.symm (own_ne_arf E_il_12 (oW hw 38 rfl) A_ix_12)) nin0))))
 have A_fa_16 := A_fa_12.keep Kq16 (ninS (Ne.symm (own_ne_arf E_rv_12 (oW hw 27 rfl) A_fa_12)) (ninS (own_ne_ty A_fa_12 A_wd_12 (by decide)) (ninS (own_ne_ty A_fa_12 A_hd_12 (by decide)) (ninS (Ne.symm (own_ne_arf E_il_12 (oW hw 38 rfl) A_fa_12)) nin0))))
 have A_ea_16 := A_ea_12.keep Kq16 (ninS (Ne.symm (own_ne_arf E_rv_12 (oW hw 27 rfl) A_ea_12)) (ninS (own_ne_ty A_ea_12 A_wd_12 (by decide)) (ninS (own_ne_ty A_ea_12 A_hd_12 (by decide)) (ninS (Ne.symm (own_ne_arf E_il_12 (oW hw 38 rfl) A_ea_12)) nin0))))
 have Z16 : n0 ≤ T16.heap.size := Nat.le_trans Z12 Kq16.1
 refine own_go (fun tg k => st16.trans k) ?_
 show oF (T16.setTop (mkF m 75 #[oR r0, oI p1, oI 1, oI 0, oI n, oU, oU, oU, oU, oU, oU] []))
 refine own_go (fun _ k => XS.lconst X16.here hx rfl (hb hby d9_75) (XS.lstoreN X16.here hx rfl (hb hby d9_76) rfl (l' := #[oR r0, oI p1, .val (.long (0 : Int64)), oS, oI n, oU, oU, oU, oU, oU, oU]) rfl (XS.aloadN X16.here hx rfl (hb hby d9_77) rfl rfl k))) ?_
 obtain ⟨T17, X17, e17, st17⟩ := getF X16 hx hZ hown (host := "") (Or.inl (oW hw 24 rfl)) Via.refl rfl F_outboxes_r0_16 (g := (mkF m 78 #[oR r0, oI p1, .val (.long (0 : Int64)), oS, oI n, oU, oU, oU, oU, oU, oU] [(.ref r0)])) rfl rfl (hb hby d9_78)
 refine own_go (fun tg k => st17 tg k) ?_
 refine own_go (fun _ k => XS.astore X17.here hx rfl (hb hby d9_81) rfl rfl (l' := #[oR r0, oI p1, .val (.long (0 : Int64)), oS, oR ob, oU, oU, oU, oU, oU, oU]) rfl (XS.aload X17.here hx rfl (hb hby d9_83) rfl rfl k)) ?_
 refine own_go (fun tg k => own_oalen X17 hx hZ e17 O_ob_16 (g := (mkF m 85 #[oR r0, oI p1, .val (.long (0 : Int64)), oS, oR ob, oU, oU, oU, oU, oU, oU] [(.ref ob)])) rfl rfl (hb hby d9_85) tg k) ?_
 refine own_go (fun _ k => XS.istore X17.here hx rfl (hb hby d9_86) rfl (l' := #[oR r0, oI p1, .val (.long (0 : Int64)), oS, oR ob, oI 2, oU, oU, oU, oU, oU]) rfl (XS.iconst X17.here hx rfl (hb hby d9_88) (XS.istore X17.here hx rfl (hb hby d9_89) rfl (l' := #[oR r0, oI p1, .val (.long (0 : Int64)), oS, oR ob, oI 2, oI 0, oU, oU, oU, oU]) rfl (XS.iload X17.here hx rfl (hb hby d9_91) rfl (XS.iload X17.here hx rfl (hb hby d9_93) rfl (XS.icmpNo X17.here hx rfl (hb hby d9_95) rfl (tlt (by decide)).2.1 (XS.aload X17.here hx rfl (hb hby d9_98) rfl rfl (XS.iload X17.here hx rfl (hb hby d9_100) rfl k)))))))) ?_
 refine own_go (fun tg k => own_oald X17 hx hZ e17 O_ob_16 (v := v0) (Or.inl ⟨rfl, rfl⟩) (g := (mkF m 102 #[oR r0, oI p1, .val (.long (0 : Int64)), oS, oR ob, oI 2, oI 0, oU, oU, oU, oU] [(.int 0), (.ref ob)])) rfl rfl (hb hby d9_102) tg k) ?_
 show oF (T17.setTop (mkF m 103 #[oR r0, oI p1, .val (.long (0 : Int64)), oS, oR ob, oI 2, oI 0, oU, oU, oU, oU] [v0]))
 have hk18 : ∀ (T18L : State) (L18L : List Loc) (h18L : Heap) (j718 : Slot), Stand p l e rm9t_room s m #[(.ref r0), (.int p1)] below meth c T18L L18L 0 0 → Fr n0 L18L → T18L.heap = h18L → One j718 → n0 ≤ h18L.size → Exa Z h18L r0 oC0 → Fld Z h18L r0 oC0 "receivers" "I" (.int n) → Fld Z h18L r0 oC0 "outboxes" oC4 (.ref ob) → Fld Z h18L r0 oC0 "recipients" oC6 (.ref rv) → Fld Z h18L r0 oC0 "delivered" "I" (.int dl) → Fld Z h18L r0 oC0 "senders" "[I" vS → Fld Z h18L r0 oC0 "messages" "[J" vM → Fld Z h18L r0 oC0 "first" "[I" (.ref fa) → Fld Z h18L r0 oC0 "end" "[I" (.ref ea) → own_Oa Z h18L ob oC2 v0 v1 → own_Box Z h18L n0 v0 Da La → own_Box Z h18L n0 v1 Db Lb → Exa Z h18L rv oC1 → Fld Z h18L rv oC1 "words" "[J" (.ref wd) → Fld Z h18L rv oC1 "held" "[Z" (.ref hd) → Fld Z h18L rv oC1 "blocks" oC5 (.ref il) → Fld Z h18L rv oC1 "sorted" "Z" (.int 1) → Exa Z h18L il oC3 → Fld Z h18L il oC3 "indices" "[I" (.ref ix) → Fld Z h18L il oC3 "size" "I" (.int 0) → own_Arf Z h18L ix .int (16 : Int32) (fun i => .int (fi i)) → own_Arf Z h18L wd .long (16 : Int32) (fun i => .long ((own_w0 (0 : Int64)) i)) → own_Arf Z h18L hd .boolean (1 : Int32) (fun i => .int ((fun _ => (0 : Int32)) i)) → own_Arf Z h18L fa .int n (fun i => .int ((fun _ => (0 : Int32)) i)) → own_Arf Z h18L ea .int n (fun i => .int ((fun _ => (0 : Int32)) i)) → own_Fin p.tables e below s (Qrm9u Z r0 p1 n ob rv dl vS vM fa ea v0 v1 Da Db La Lb wd hd il ix fi fw fh fF0 eF0 h0 n0) rm9t_room.cells rm9t_room.slots (T18L.setTop (mkF m 123 #[oR r0, oI p1, .val (.long (own_tot (0 : Int64) La)), oS, oR ob, oI 2, oI 0, j718, oU, oU, oU] [])) := by
  intro T18L L18L h18L j718 X18L N18L e18L hj718 Z18L E_r0_18L F_receivers_r0_18L F_outboxes_r0_18L F_recipients_r0_18L F_delivered_r0_18L F_senders_r0_18L F_messages_r0_18L F_first_r0_18L F_end_r0_18L O_ob_18L B_0_18L B_1_18L E_rv_18L F_words_rv_18L F_held_rv_18L F_blocks_rv_18L F_sorted_rv_18L E_il_18L F_indices_il_18L F_size_il_18L A_ix_18L A_wd_18L A_hd_18L A_fa_18L A_ea_18L
  show oF (T18L.setTop (mkF m 123 #[oR r0, oI p1, .val (.long (own_tot (0 : Int64) La)), oS, oR ob, oI 2, oI 0, j718, oU, oU, oU] []))
  refine own_go (fun _ k => XS.iinc X18L.here hx rfl (hb hby d9_123) rfl (l' := #[oR r0, oI p1, .val (.long (own_tot (0 : Int64) La)), oS, oR ob, oI 2, oI 1, j718, oU, oU, oU]) rfl k) ?_
  show oF (T18L.setTop (mkF m 126 #[oR r0, oI p1, .val (.long (own_tot (0 : Int64) La)), oS, oR ob, oI 2, oI 1, j718, oU, oU, oU] []))
  refine own_go (fun _ k => XS.goto X18L.here hx rfl (pc0 := 126) (pc' := 91) rfl (hb hby d9_126) (by decide) (by decide) (XS.iload X18L.here hx rfl (hb hby d9_91) rfl (XS.iload X18L.here hx rfl (hb hby d9_93) rfl (XS.icmpNo X18L.here hx rfl (hb hby d9_95) rfl (tlt (by decide)).2.1 (XS.aload X18L.here hx rfl (hb hby d9_98) rfl rfl (XS.iload X18L.here hx rfl (hb hby d9_100) rfl k)))))) ?_
  refine own_go (fun tg k => own_oald X18L hx hZ e18L O_ob_18L (v := v1) (Or.inr ⟨rfl, rfl⟩) (g := (mkF m 102 #[oR r0, oI p1, .val (.long (own_tot (0 : Int64) La)), oS, oR ob, oI 2, oI 1, j718, oU, oU, oU] [(.int 1), (.ref ob)])) rfl rfl (hb hby d9_102) tg k) ?_
  show oF (T18L.setTop (mkF m 103 #[oR r0, oI p1, .val (.long (own_tot (0 : Int64) La)), oS, oR ob, oI 2, oI 1, j718, oU, oU, oU] [v1]))
  have hk19 : ∀ (T19L : State) (L19L : List Loc) (h19L : Heap) (j719 : Slot), Stand p l e rm9t_room s m #[(.ref r0), (.int p1)] below meth c T19L L19L 0 0 → Fr n0 L19L → T19L.heap = h19L → One j719 → n0 ≤ h19L.size → Exa Z h19L r0 oC0 → Fld Z h19L r0 oC0 "receivers" "I" (.int n) → Fld Z h19L r0 oC0 "outboxes" oC4 (.ref ob) → Fld Z h19L r0 oC0 "recipients" oC6 (.ref rv) → Fld Z h19L r0 oC0 "delivered" "I" (.int dl) → Fld Z h19L r0 oC0 "senders" "[I" vS → Fld Z h19L r0 oC0 "messages" "[J" vM → Fld Z h19L r0 oC0 "first" "[I" (.ref fa) → Fld Z h19L r0 oC0 "end" "[I" (.ref ea) → own_Oa Z h19L ob oC2 v0 v1 → own_Box Z h19L n0 v0 Da La → own_Box Z h19L n0 v1 Db Lb → Exa Z h19L rv oC1 → Fld Z h19L rv oC1 "words" "[J" (.ref wd) → Fld Z h19L rv oC1 "held" "[Z" (.ref hd) → Fld Z h19L rv oC1 "blocks" oC5 (.ref il) → Fld Z h19L rv oC1 "sorted" "Z" (.int 1) → Exa Z h19L il oC3 → Fld Z h19L il oC3 "indices" "[I" (.ref ix) → Fld Z h19L il oC3 "size" "I" (.int 0) → own_Arf Z h19L ix .int (16 : Int32) (fun i => .int (fi i)) → own_Arf Z h19L wd .long (16 : Int32) (fun i => .long ((own_w0 (0 : Int64)) i)) → own_Arf Z h19L hd .boolean (1 : Int32) (fun i => .int ((fun _ => (0 : Int32)) i)) → own_Arf Z h19L fa .int n (fun i => .int ((fun _ => (0 : Int32)) i)) → own_Arf Z h19L ea .int n (fun i => .int ((fun _ => (0 : Int32)) i)) → own_Fin p.tables e below s (Qrm9u Z r0 p1 n ob rv dl vS vM fa ea v0 v1 Da Db La Lb wd hd il ix fi fw fh fF0 eF0 h0 n0) rm9t_room.cells rm9t_room.slots (T19L.setTop (mkF m 123 #[oR r0, oI p1, .val (.long (own_tot (own_tot (0 : Int64) La) Lb)), oS, oR ob, oI 2, oI 1, j719, oU, oU, oU] [])) := by
   intro T19L L19L h19L j719 X19L N19L e19L hj719 Z19L E_r0_19L F_receivers_r0_19L F_outboxes_r0_19L F_recipients_r0_19L F_delivered_r0_19L F_senders_r0_19L F_messages_r0_19L F_first_r0_19L F_end_r0_19L O_ob_19L B_0_19L B_1_19L E_rv_19L F_words_rv_19L F_held_rv_19L F_blocks_rv_19L F_sorted_rv_19L E_il_19L F_indices_il_19L F_size_il_19L A_ix_19L A_wd_19L A_hd_19L A_fa_19L A_ea_19L
   show oF (T19L.setTop (mkF m 123 #[oR r0, oI p1, .val (.long (own_tot (own_tot (0 : Int64) La) Lb)), oS, oR ob, oI 2, oI 1, j719, oU, oU, oU] []))
   refine own_go (fun _ k => XS.iinc X19L.here hx rfl (hb hby d9_123) rfl (l' := #[oR r0, oI p1, .val (.long (own_tot (own_tot (0 : Int64) La) Lb)), oS, oR ob, oI 2, oI 2, j719, oU, oU, oU]) rfl k) ?_
   show oF (T19L.setTop (mkF m 126 #[oR r0, oI p1, .val (.long (own_tot (own_tot (0 : Int64) La) Lb)), oS, oR ob, oI 2, oI 2, j719, oU, oU, oU] []))
   refine own_go (fun _ k => XS.goto X19L.here hx rfl (pc0 := 126) (pc' := 91) rfl (hb hby d9_126) (by decide) (by decide) (XS.iload X19L.here hx rfl (hb hby d9_91) rfl (XS.iload X19L.here hx rfl (hb hby d9_93) rfl (XS.icmpYes X19L.here hx rfl (pc0 := 95) (pc' := 129) rfl (hb hby d9_95) rfl (flt (by decide)).2.1 (by decide) (by decide) k)))) ?_
   show oF (T19L.setTop (mkF m 129 #[oR r0, oI p1, .val (.long (own_tot (own_tot (0 : Int64) La) Lb)), oS, oR ob, oI 2, oI 2, j719, oU, oU, oU] []))
   refine own_go (fun _ k => XS.lloadN X19L.here hx rfl (hb hby d9_129) rfl k) ?_
   refine own_go (fun _ k => X19L.ldc2Long hx hown (mvT hZ (oW hw 114 rfl)) (g := (mkF m 130 #[oR r0, oI p1, .val (.long (own_tot (own_tot (0 : Int64) La) Lb)), oS, oR ob, oI 2, oI 2, j719, oU, oU, oU] [(.long (own_tot (own_tot (0 : Int64) La) Lb))])) rfl (hb hby d9_130) _ k) ?_
   refine own_go (fun _ k => XS.lcmp X19L.here hx rfl (hb hby d9_133) rfl k) ?_
   show oF (T19L.setTop (mkF m 134 #[oR r0, oI p1, .val (.long (own_tot (own_tot (0 : Int64) La) Lb)), oS, oR ob, oI 2, oI 2, j719, oU, oU, oU] [(.int (lcmpW (own_tot (own_tot (0 : Int64) La) Lb) (2147483639 : Int64)))]))
   have hc134 : ¬ ((2147483639 : Int64) < (own_tot (own_tot (0 : Int64) La) Lb)) := (own_totm hl)
   refine own_go (fun _ k => XS.ifYes X19L.here hx rfl (pc0 := 134) (pc' := 156) rfl (hb hby d9_134) rfl ((if0 _ _).trans (flt (mt (lw_gt _ _).mp hc134)).2.2.2) (by decide) (by decide) (XS.aloadN X19L.here hx rfl (hb hby d9_156) rfl rfl (XS.lloadN X19L.here hx rfl (hb hby d9_157) rfl (XS.l2i X19L.here hx rfl (hb hby d9_158) rfl k)))) ?_
   show oF (T19L.setTop (mkF m 159 #[oR r0, oI p1, .val (.long (own_tot (own_tot (0 : Int64) La) Lb)), oS, oR ob, oI 2, oI 2, j719, oU, oU, oU] [(.int ((own_tot (own_tot (0 : Int64) La) Lb).toInt32)), (.ref r0)]))
   obtain ⟨T20, h20, X20, e20, W20, st20⟩ := putF X19L hx hZ hown (host := "") (Or.inl (oW hw 115 rfl)) Via.refl e19L F_delivered_r0_19L E_r0_19L (Or.inl (oW hw 116 rfl)) (oW hw 2 rfl) (ty := .int) (by decide) rfl rfl (g := (mkF m 159 #[oR r0, oI p1, .val (.long (own_tot (own_tot (0 : Int64) La) Lb)), oS, oR ob, oI 2, oI 2, j719, oU, oU, oU] [(.int ((own_tot (own_tot (0 : Int64) La) Lb).toInt32)), (.ref r0)])) rfl rfl (hb hby d9_159)
   have E_r0_20 := E_r0_19L.wr W20
   have F_receivers_r0_20 := F_receivers_r0_19L.other W20 (Or.inr (own_sn694 hw))
   have F_outboxes_r0_20 := F_outboxes_r0_19L.other W20 (Or.inr (own_sn695 hw))
   have F_recipients_r0_20 := F_recipients_r0_19L.other W20 (Or.inr (own_sn696 hw))
   have F_senders_r0_20 := F_senders_r0_19L.other W20 (Or.inr (own_sn697 hw))
   have F_messages_r0_20 := F_messages_r0_19L.other W20 (Or.inr (own_sn698 hw))
   have F_first_r0_20 := F_first_r0_19L.other W20 (Or.inr (own_sn699 hw))
   have F_end_r0_20 := F_end_r0_19L.other W20 (Or.inr (own_sn700 hw))
   have O_ob_20 := O_ob_19L.other W20 (Ne.symm (own_ne_oa E_r0_19L (oW hw 2 rfl) O_ob_19L))
   have B_0_20 := B_0_19L.other W20 nb_r0_0
   have B_1_20 := B_1_19L.other W20 nb_r0_1
   have E_rv_20 := E_rv_19L.wr W20
   have u20_rv := (ne_exa E_rv_19L E_r0_19L (by decide))
   have F_words_rv_20 := F_words_rv_19L.other W20 (Or.inl u20_rv)
   have F_held_rv_20 := F_held_rv_19L.other W20 (Or.inl u20_rv)
   have F_blocks_rv_20 := F_blocks_rv_19L.other W20 (Or.inl u20_rv)
   have F_sorted_rv_20 := F_sorted_rv_19L.other W20 (Or.inl u20_rv)
   have E_il_20 := E_il_19L.wr W20
   have u20_il := (ne_exa E_il_19L E_r0_19L (by decide))
   have F_indices_il_20 := F_indices_il_19L.other W20 (Or.inl u20_il)
   have F_size_il_20 := F_size_il_19L.other W20 (Or.inl u20_il)
   have A_ix_20 := A_ix_19L.other W20 (Ne.symm (own_ne_arf E_r0_19L (oW hw 2 rfl) A_ix_19L))
   have A_wd_20 := A_wd_19L.other W20 (Ne.symm (own_ne_arf E_r0_19L (oW hw 2 rfl) A_wd_19L))
   have A_hd_20 := A_hd_19L.other W20 (Ne.symm (own_ne_arf E_r0_19L (oW hw 2 rfl) A_hd_19L))
   have A_fa_20 := A_fa_19L.other W20 (Ne.symm (own_ne_arf E_r0_19L (oW hw 2 rfl) A_fa_19L))
   have A_ea_20 := A_ea_19L.other W20 (Ne.symm (own_ne_arf E_r0_19L (oW hw 2 rfl) A_ea_19L))
   have N20 := Fr.snoc X20 N19L ge_r0
   have Z20 : n0 ≤ h20.size := Nat.le_trans Z19L (Keep.of_wr W20).1
   have F_delivered_r0_20 := F_delivered_r0_19L.same W20
   refine own_go (fun tg k => st20 tg k) ?_
   refine own_go (fun _ k => XS.aloadN X20.here hx rfl (hb hby d9_162) rfl rfl (XS.aconstNull X20.here hx rfl (hb hby d9_163) k)) ?_
   obtain ⟨T21, h21, X21, e21, W21, st21⟩ := putF X20 hx hZ hown (host := "") (Or.inl (oW hw 117 rfl)) Via.refl e20 F_senders_r0_20 E_r0_20 (Or.inl (oW hw 118 rfl)) (oW hw 2 rfl) (ty := (.array .int)) (by decide) rfl rfl (g := (mkF m 164 #[oR r0, oI p1, .val (.long (own_tot (own_tot (0 : Int64) La) Lb)), oS, oR ob, oI 2, oI 2, j719, oU, oU, oU] [.null, (.ref r0)])) rfl rfl (hb hby d9_164)
   have E_r0_21 := E_r0_20.wr W21
   have F_receivers_r0_21 := F_receivers_r0_20.other W21 (Or.inr (own_sn505 hw))
   have F_outboxes_r0_21 := F_outboxes_r0_20.other W21 (Or.inr (own_sn506 hw))
   have F_recipients_r0_21 := F_recipients_r0_20.other W21 (Or.inr (own_sn507 hw))
   have F_delivered_r0_21 := F_delivered_r0_20.other W21 (Or.inr (own_sn508 hw))
   have F_messages_r0_21 := F_messages_r0_20.other W21 (Or.inr (own_sn509 hw))
   have F_first_r0_21 := F_first_r0_20.other W21 (Or.inr (own_sn510 hw))
   have F_end_r0_21 := F_end_r0_20.other W21 (Or.inr (own_sn511 hw))
   have O_ob_21 := O_ob_20.other W21 (Ne.symm (own_ne_oa E_r0_20 (oW hw 2 rfl) O_ob_20))
   have B_0_21 := B_0_20.other W21 nb_r0_0
   have B_1_21 := B_1_20.other W21 nb_r0_1
   have E_rv_21 := E_rv_20.wr W21
   have u21_rv := (ne_exa E_rv_20 E_r0_20 (by decide))
   have F_words_rv_21 := F_words_rv_20.other W21 (Or.inl u21_rv)
   have F_held_rv_21 := F_held_rv_20.other W21 (Or.inl u21_rv)
   have F_blocks_rv_21 := F_blocks_rv_20.other W21 (Or.inl u21_rv)
   have F_sorted_rv_21 := F_sorted_rv_20.other W21 (Or.inl u21_rv)
   have E_il_21 := E_il_20.wr W21
   have u21_il := (ne_exa E_il_20 E_r0_20 (by decide))
   have F_indices_il_21 := F_indices_il_20.other W21 (Or.inl u21_il)
   have F_size_il_21 := F_size_il_20.other W21 (Or.inl u21_il)
   have A_ix_21 := A_ix_20.other W21 (Ne.symm (own_ne_arf E_r0_20 (oW hw 2 rfl) A_ix_20))
   have A_wd_21 := A_wd_20.other W21 (Ne.symm (own_ne_arf E_r0_20 (oW hw 2 rfl) A_wd_20))
   have A_hd_21 := A_hd_20.other W21 (Ne.symm (own_ne_arf E_r0_20 (oW hw 2 rfl) A_hd_20))
   have A_fa_21 := A_fa_20.other W21 (Ne.symm (own_ne_arf E_r0_20 (oW hw 2 rfl) A_fa_20))
   have A_ea_21 := A_ea_20.other W21 (Ne.symm (own_ne_arf E_r0_20 (oW hw 2 rfl) A_ea_20))
   have N21 := Fr.snoc X21 N20 ge_r0
   have Z21 : n0 ≤ h21.size := Nat.le_trans Z20 (Keep.of_wr W21).1
   have F_senders_r0_21 := F_senders_r0_20.same W21
   refine own_go (fun tg k => st21 tg k) ?_
   refine own_go (fun _ k => XS.aloadN X21.here hx rfl (hb hby d9_167) rfl rfl (XS.aconstNull X21.here hx rfl (hb hby d9_168) k)) ?_
   obtain ⟨T22, h22, X22, e22, W22, st22⟩ := putF X21 hx hZ hown (host := "") (Or.inl (oW hw 119 rfl)) Via.refl e21 F_messages_r0_21 E_r0_21 (Or.inl (oW hw 120 rfl)) (oW hw 2 rfl) (ty := (.array .long)) (by decide) rfl rfl (g := (mkF m 169 #[oR r0, oI p1, .val (.long (own_tot (own_tot (0 : Int64) La) Lb)), oS, oR ob, oI 2, oI 2, j719, oU, oU, oU] [.null, (.ref r0)])) rfl rfl (hb hby d9_169)
   have E_r0_22 := E_r0_21.wr W22
   have F_receivers_r0_22 := F_receivers_r0_21.other W22 (Or.inr (own_sn512 hw))
   have F_outboxes_r0_22 := F_outboxes_r0_21.other W22 (Or.inr (own_sn513 hw))
   have F_recipients_r0_22 := F_recipients_r0_21.other W22 (Or.inr (own_sn514 hw))
   have F_delivered_r0_22 := F_delivered_r0_21.other W22 (Or.inr (own_sn515 hw))
   have F_senders_r0_22 := F_senders_r0_21.other W22 (Or.inr (own_sn516 hw))
   have F_first_r0_22 := F_first_r0_21.other W22 (Or.inr (own_sn517 hw))
   have F_end_r0_22 := F_end_r0_21.other W22 (Or.inr (own_sn518 hw))
   have O_ob_22 := O_ob_21.other W22 (Ne.symm (own_ne_oa E_r0_21 (oW hw 2 rfl) O_ob_21))
   have B_0_22 := B_0_21.other W22 nb_r0_0
   have B_1_22 := B_1_21.other W22 nb_r0_1
   have E_rv_22 := E_rv_21.wr W22
   have u22_rv := (ne_exa E_rv_21 E_r0_21 (by decide))
   have F_words_rv_22 := F_words_rv_21.other W22 (Or.inl u22_rv)
   have F_held_rv_22 := F_held_rv_21.other W22 (Or.inl u22_rv)
   have F_blocks_rv_22 := F_blocks_rv_21.other W22 (Or.inl u22_rv)
   have F_sorted_rv_22 := F_sorted_rv_21.other W22 (Or.inl u22_rv)
   have E_il_22 := E_il_21.wr W22
   have u22_il := (ne_exa E_il_21 E_r0_21 (by decide))
   have F_indices_il_22 := F_indices_il_21.other W22 (Or.inl u22_il)
   have F_size_il_22 := F_size_il_21.other W22 (Or.inl u22_il)
   have A_ix_22 := A_ix_21.other W22 (Ne.symm (own_ne_arf E_r0_21 (oW hw 2 rfl) A_ix_21))
   have A_wd_22 := A_wd_21.other W22 (Ne.symm (own_ne_arf E_r0_21 (oW hw 2 rfl) A_wd_21))
   have A_hd_22 := A_hd_21.other W22 (Ne.symm (own_ne_arf E_r0_21 (oW hw 2 rfl) A_hd_21))
   have A_fa_22 := A_fa_21.other W22 (Ne.symm (own_ne_arf E_r0_21 (oW hw 2 rfl) A_fa_21))
   have A_ea_22 := A_ea_21.other W22 (Ne.symm (own_ne_arf E_r0_21 (oW hw 2 rfl) A_ea_21))
   have N22 := Fr.snoc X22 N21 ge_r0
   have Z22 : n0 ≤ h22.size := Nat.le_trans Z21 (Keep.of_wr W22).1
   have F_messages_r0_22 := F_messages_r0_21.same W22
   refine own_go (fun tg k => st22 tg k) ?_
   refine own_go (fun _ k => XS.lloadN X22.here hx rfl (hb hby d9_172) rfl (XS.lconst X22.here hx rfl (hb hby d9_173) (XS.lcmp X22.here hx rfl (hb hby d9_174) rfl k))) ?_
   show oF (T22.setTop (mkF m 175 #[oR r0, oI p1, .val (.long (own_tot (own_tot (0 : Int64) La) Lb)), oS, oR ob, oI 2, oI 2, j719, oU, oU, oU] [(.int (lcmpW (own_tot (own_tot (0 : Int64) La) Lb) (0 : Int64)))]))
   by_cases hc23 : (own_tot (own_tot (0 : Int64) La) Lb) = (0 : Int64)
   · refine own_go (fun _ k => XS.ifNo X22.here hx rfl (hb hby d9_175) rfl ((if0 _ _).trans (teq ((lw_eq _ _).mpr hc23)).2) k) ?_
     show oF (T22.setTop (mkF m 178 #[oR r0, oI p1, .val (.long (own_tot (own_tot (0 : Int64) La) Lb)), oS, oR ob, oI 2, oI 2, j719, oU, oU, oU] []))
     refine own_go (fun _ k => XS.iconst X22.here hx rfl (hb hby d9_178) k) ?_
     refine own_ret X22 hx hlk Bd.returns rfl (Or.inl ⟨rfl, by simp, _, rfl⟩) (hb hby d9_179) (Nat.le_of_ble_eq_true rfl) (Nat.le_of_ble_eq_true rfl) ?_
     rw [e22]
     refine ⟨fa, ea, ?_, N22, (by have q : s.heap.size ≤ T22.heap.size := X22.same.2.1; rw [hh, e22] at q; exact q), E_r0_22, ?_, ?_, ?_, ?_⟩
     · exact own_dr0 hl hc23
     · first | (exact F_first_r0_22) | (simp only [if_pos hc23]; exact F_first_r0_22)
     · first | (exact F_end_r0_22) | (simp only [if_pos hc23]; exact F_end_r0_22)
     · ( rw [own_FF0 (own_z0 hl hc23)]; exact A_fa_22)
     · ( rw [own_EE0 (own_z0 hl hc23)]; exact A_ea_22)
   · refine own_go (fun _ k => XS.ifYes X22.here hx rfl (pc0 := 175) (pc' := 180) rfl (hb hby d9_175) rfl ((if0 _ _).trans (feq (mt (lw_eq _ _).mp hc23)).2) (by decide) (by decide) k) ?_
     show oF (T22.setTop (mkF m 180 #[oR r0, oI p1, .val (.long (own_tot (own_tot (0 : Int64) La) Lb)), oS, oR ob, oI 2, oI 2, j719, oU, oU, oU] []))
     refine own_go (fun _ k => XS.aloadN X22.here hx rfl (hb hby d9_180) rfl rfl k) ?_
     obtain ⟨T24, X24, e24, st24⟩ := getF X22 hx hZ hown (host := "") (Or.inl (oW hw 121 rfl)) Via.refl e22 F_first_r0_22 (g := (mkF m 181 #[oR r0, oI p1, .val (.long (own_tot (own_tot (0 : Int64) La) Lb)), oS, oR ob, oI 2, oI 2, j719, oU, oU, oU] [(.ref r0)])) rfl rfl (hb hby d9_181)
     refine own_go (fun tg k => st24 tg k) ?_
     refine own_go (fun _ k => XS.ifnonnullYes X24.here hx rfl (pc0 := 184) (pc' := 207) rfl (hb hby d9_184) rfl (by decide) (by decide) k) ?_
     show oF (T24.setTop (mkF m 207 #[oR r0, oI p1, .val (.long (own_tot (own_tot (0 : Int64) La) Lb)), oS, oR ob, oI 2, oI 2, j719, oU, oU, oU] []))
     exact own_Fmono (fun v h L q => by obtain ⟨dx, vSx, vMx, fy, ey, fwx, gx, e1, N, sz, E_r0', F_receivers_r0', F_outboxes_r0', F_recipients_r0', F_delivered_r0', F_senders_r0', F_messages_r0', F_first_r0', F_end_r0', O_ob', B_0', B_1', E_rv', F_words_rv', F_held_rv', F_blocks_rv', F_sorted_rv', E_il', F_indices_il', F_size_il', A_wd', A_hd', A_ix', A_fy', A_ey', ne_fy_ey', ne_ix_fy', ne_ix_ey', ge_fy', ge_ey', nb_fy_0', nb_fy_1', nb_ey_0', nb_ey_1', hP'⟩ := q; exact ⟨fy, ey, by rw [e1, own_dr, if_neg (own_nz hl hc23)], N, sz, E_r0', F_first_r0', F_end_r0', A_fy', A_ey'⟩) (rm9t l Z a0 hw r0 p1 n ob rv fa ea v0 v1 Da Db La Lb wd hd il ix fi h0 n0 hx hby hml hZ hown hlk Bd.returns hh (own_mono X24 (by decide) (by decide)) N22 e24 Z22 hj719 E_r0_22 F_receivers_r0_22 F_outboxes_r0_22 F_recipients_r0_22 F_delivered_r0_22 F_senders_r0_22 F_messages_r0_22 F_first_r0_22 F_end_r0_22 O_ob_22 B_0_22 B_1_22 E_rv_22 F_words_rv_22 F_held_rv_22 F_blocks_rv_22 F_sorted_rv_22 E_il_22 F_indices_il_22 F_size_il_22 A_ix_22 A_wd_22 A_hd_22 A_fa_22 A_ea_22 ne_fa_ea ne_ix_fa ne_ix_ea ge_r0 ge_rv ge_wd ge_hd ge_il ge_ix ge_fa ge_ea nb_r0_0 nb_r0_1 nb_rv_0 nb_rv_1 nb_wd_0 nb_wd_1 nb_hd_0 nb_hd_1 nb_il_0 nb_il_1 nb_ix_0 nb_ix_1 nb_fa_0 nb_fa_1 nb_ea_0 nb_ea_1 hdj hn hl hm (own_nz hl hc23))
  obtain ⟨hl25, ⟨hv25, hD25, hL25⟩ | ⟨xa25, xb25, xc25, xd25, q125, gg25, q325, hv25, hD25, hB25, hg25⟩⟩ := id B_1_18L
  · refine own_vr hv25 ?_
    show oF (T18L.setTop (mkF m 103 #[oR r0, oI p1, .val (.long (own_tot (0 : Int64) La)), oS, oR ob, oI 2, oI 1, j718, oU, oU, oU] [.null]))
    refine own_go (fun _ k => XS.astoreS X18L.here hx rfl (hb hby d9_103) rfl rfl rfl rfl hj718 (XS.lloadN X18L.here hx rfl (hb hby d9_105) rfl (XS.aload X18L.here hx rfl (hb hby d9_106) rfl rfl (XS.ifnonnullNo X18L.here hx rfl (hb hby d9_108) rfl (XS.lconst X18L.here hx rfl (hb hby d9_111) (XS.goto X18L.here hx rfl (pc0 := 112) (pc' := 121) rfl (hb hby d9_112) (by decide) (by decide) (XS.ladd X18L.here hx rfl (hb hby d9_121) rfl (XS.lstoreN X18L.here hx rfl (hb hby d9_122) rfl (l' := #[oR r0, oI p1, .val (.long ((own_tot (0 : Int64) La) + (0 : Int64))), oS, oR ob, oI 2, oI 1, .val .null, oU, oU, oU]) rfl k)))))))) ?_
    have kj := hk19  T18L _ h18L (.val .null) (own_mono X18L (by decide) (by decide)) N18L e18L (One.val rfl) Z18L E_r0_18L F_receivers_r0_18L F_outboxes_r0_18L F_recipients_r0_18L F_delivered_r0_18L F_senders_r0_18L F_messages_r0_18L F_first_r0_18L F_end_r0_18L O_ob_18L B_0_18L B_1_18L E_rv_18L F_words_rv_18L F_held_rv_18L F_blocks_rv_18L F_sorted_rv_18L E_il_18L F_indices_il_18L F_size_il_18L A_ix_18L A_wd_18L A_hd_18L A_fa_18L A_ea_18L
    rw [show (own_tot (own_tot (0 : Int64) La) Lb) = ((own_tot (0 : Int64) La) + (0 : Int64)) from by rw [hL25]; first | rfl | decide | simp [own_tot]] at kj
    exact kj
  · refine own_vr hv25 ?_
    show oF (T18L.setTop (mkF m 103 #[oR r0, oI p1, .val (.long (own_tot (0 : Int64) La)), oS, oR ob, oI 2, oI 1, j718, oU, oU, oU] [(.ref xa25)]))
    obtain ⟨⟨ge_xa25, ge_xb25, ge_xc25, ge_xd25, ne_xb25_xc25⟩, E_xa25_o, F_size_xa25_o, F_senders_xa25_o, F_receivers_xa25_o, F_messages_xa25_o, A_xb25_o, A_xc25_o, A_xd25_o⟩ := hB25
    refine own_go (fun _ k => XS.astoreS X18L.here hx rfl (hb hby d9_103) rfl rfl rfl rfl hj718 (XS.lloadN X18L.here hx rfl (hb hby d9_105) rfl (XS.aload X18L.here hx rfl (hb hby d9_106) rfl rfl (XS.ifnonnullYes X18L.here hx rfl (pc0 := 108) (pc' := 115) rfl (hb hby d9_108) rfl (by decide) (by decide) (XS.aload X18L.here hx rfl (hb hby d9_115) rfl rfl k))))) ?_
    refine own_go (fun tg k => own_getFR X18L hx hZ hown (oW hw 113 rfl) e18L F_size_xa25_o (g := (mkF m 117 #[oR r0, oI p1, .val (.long (own_tot (0 : Int64) La)), oS, oR ob, oI 2, oI 1, oR xa25, oU, oU, oU] [(.ref xa25), (.long (own_tot (0 : Int64) La))])) rfl rfl (hb hby d9_117) tg k) ?_
    refine own_go (fun _ k => XS.i2l X18L.here hx rfl (hb hby d9_120) rfl k) ?_
    show oF (T18L.setTop (mkF m 121 #[oR r0, oI p1, .val (.long (own_tot (0 : Int64) La)), oS, oR ob, oI 2, oI 1, oR xa25, oU, oU, oU] [(.long ((Int32.ofNat Lb.length).toInt64)), (.long (own_tot (0 : Int64) La))]))
    refine own_go (fun _ k => XS.ladd X18L.here hx rfl (hb hby d9_121) rfl (XS.lstoreN X18L.here hx rfl (hb hby d9_122) rfl (l' := #[oR r0, oI p1, .val (.long ((own_tot (0 : Int64) La) + ((Int32.ofNat Lb.length).toInt64))), oS, oR ob, oI 2, oI 1, oR xa25, oU, oU, oU]) rfl k)) ?_
    exact hk19  T18L _ h18L (oR xa25) (own_mono X18L (by decide) (by decide)) N18L e18L (One.val rfl) Z18L E_r0_18L F_receivers_r0_18L F_outboxes_r0_18L F_recipients_r0_18L F_delivered_r0_18L F_senders_r0_18L F_messages_r0_18L F_first_r0_18L F_end_r0_18L O_ob_18L B_0_18L B_1_18L E_rv_18L F_words_rv_18L F_held_rv_18L F_blocks_rv_18L F_sorted_rv_18L E_il_18L F_indices_il_18L F_size_il_18L A_ix_18L A_wd_18L A_hd_18L A_fa_18L A_ea_18L
 obtain ⟨hl26, ⟨hv26, hD26, hL26⟩ | ⟨xa26, xb26, xc26, xd26, q126, gg26, q326, hv26, hD26, hB26, hg26⟩⟩ := id B_0_16
 · refine own_vr hv26 ?_
   show oF (T17.setTop (mkF m 103 #[oR r0, oI p1, .val (.long (0 : Int64)), oS, oR ob, oI 2, oI 0, oU, oU, oU, oU] [.null]))
   refine own_go (fun _ k => XS.astore X17.here hx rfl (hb hby d9_103) rfl rfl (l' := #[oR r0, oI p1, .val (.long (0 : Int64)), oS, oR ob, oI 2, oI 0, .val .null, oU, oU, oU]) rfl (XS.lloadN X17.here hx rfl (hb hby d9_105) rfl (XS.aload X17.here hx rfl (hb hby d9_106) rfl rfl (XS.ifnonnullNo X17.here hx rfl (hb hby d9_108) rfl (XS.lconst X17.here hx rfl (hb hby d9_111) (XS.goto X17.here hx rfl (pc0 := 112) (pc' := 121) rfl (hb hby d9_112) (by decide) (by decide) (XS.ladd X17.here hx rfl (hb hby d9_121) rfl k))))))) ?_
   show oF (T17.setTop (mkF m 122 #[oR r0, oI p1, .val (.long (0 : Int64)), oS, oR ob, oI 2, oI 0, .val .null, oU, oU, oU] [(.long (0 : Int64))]))
   refine own_go (fun _ k => XS.lstoreN X17.here hx rfl (hb hby d9_122) rfl (l' := #[oR r0, oI p1, .val (.long (0 : Int64)), oS, oR ob, oI 2, oI 0, .val .null, oU, oU, oU]) rfl k) ?_
   have kj := hk18  T17 _ T16.heap (.val .null) (own_mono X17 (by decide) (by decide)) N16 e17 (One.val rfl) Z16 E_r0_16 F_receivers_r0_16 F_outboxes_r0_16 F_recipients_r0_16 F_delivered_r0_16 F_senders_r0_16 F_messages_r0_16 F_first_r0_16 F_end_r0_16 O_ob_16 B_0_16 B_1_16 E_rv_16 F_words_rv_16 F_held_rv_16 F_blocks_rv_16 F_sorted_rv_16 E_il_16 F_indices_il_16 F_size_il_16 A_ix_16 A_wd_16 A_hd_16 A_fa_16 A_ea_16
   rw [show (own_tot (0 : Int64) La) = (0 : Int64) from by rw [hL26]; first | rfl | decide | simp [own_tot]] at kj
   exact kj
 · refine own_vr hv26 ?_
   show oF (T17.setTop (mkF m 103 #[oR r0, oI p1, .val (.long (0 : Int64)), oS, oR ob, oI 2, oI 0, oU, oU, oU, oU] [(.ref xa26)]))
   obtain ⟨⟨ge_xa26, ge_xb26, ge_xc26, ge_xd26, ne_xb26_xc26⟩, E_xa26_o, F_size_xa26_o, F_senders_xa26_o, F_receivers_xa26_o, F_messages_xa26_o, A_xb26_o, A_xc26_o, A_xd26_o⟩ := hB26
   refine own_go (fun _ k => XS.astore X17.here hx rfl (hb hby d9_103) rfl rfl (l' := #[oR r0, oI p1, .val (.long (0 : Int64)), oS, oR ob, oI 2, oI 0, oR xa26, oU, oU, oU]) rfl (XS.lloadN X17.here hx rfl (hb hby d9_105) rfl (XS.aload X17.here hx rfl (hb hby d9_106) rfl rfl (XS.ifnonnullYes X17.here hx rfl (pc0 := 108) (pc' := 115) rfl (hb hby d9_108) rfl (by decide) (by decide) (XS.aload X17.here hx rfl (hb hby d9_115) rfl rfl k))))) ?_
   refine own_go (fun tg k => own_getFR X17 hx hZ hown (oW hw 113 rfl) e17 F_size_xa26_o (g := (mkF m 117 #[oR r0, oI p1, .val (.long (0 : Int64)), oS, oR ob, oI 2, oI 0, oR xa26, oU, oU, oU] [(.ref xa26), (.long (0 : Int64))])) rfl rfl (hb hby d9_117) tg k) ?_
   refine own_go (fun _ k => XS.i2l X17.here hx rfl (hb hby d9_120) rfl k) ?_
   show oF (T17.setTop (mkF m 121 #[oR r0, oI p1, .val (.long (0 : Int64)), oS, oR ob, oI 2, oI 0, oR xa26, oU, oU, oU] [(.long ((Int32.ofNat La.length).toInt64)), (.long (0 : Int64))]))
   refine own_go (fun _ k => XS.ladd X17.here hx rfl (hb hby d9_121) rfl (XS.lstoreN X17.here hx rfl (hb hby d9_122) rfl (l' := #[oR r0, oI p1, .val (.long ((0 : Int64) + ((Int32.ofNat La.length).toInt64))), oS, oR ob, oI 2, oI 0, oR xa26, oU, oU, oU]) rfl k)) ?_
   exact hk18  T17 _ T16.heap (oR xa26) (own_mono X17 (by decide) (by decide)) N16 e17 (One.val rfl) Z16 E_r0_16 F_receivers_r0_16 F_outboxes_r0_16 F_recipients_r0_16 F_delivered_r0_16 F_senders_r0_16 F_messages_r0_16 F_first_r0_16 F_end_r0_16 O_ob_16 B_0_16 B_1_16 E_rv_16 F_words_rv_16 F_held_rv_16 F_blocks_rv_16 F_sorted_rv_16 E_il_16 F_indices_il_16 F_size_il_16 A_ix_16 A_wd_16 A_hd_16 A_fa_16 A_ea_16
def own_AMf (Z : State) (h : Heap) (n0 : Nat) (r0 : Addr) (n : Int32) (La Lb : List Int32) : Prop := ∃ (ob : Addr) (rv : Addr) (dl : Int32) (vS : Value) (vM : Value) (v0 : Value) (v1 : Value) (Da : List Addr) (Db : List Addr) (wd : Addr) (hd : Addr) (il : Addr) (ix : Addr) (fi : Nat → Int32), Exa Z h r0 oC0 ∧ Fld Z h r0 oC0 "receivers" "I" (.int n) ∧ Fld Z h r0 oC0 "outboxes" oC4 (.ref ob) ∧ Fld Z h r0 oC0 "recipients" oC6 (.ref rv) ∧ Fld Z h r0 oC0 "delivered" "I" (.int dl) ∧ Fld Z h r0 oC0 "senders" "[I" vS ∧ Fld Z h r0 oC0 "messages" "[J" vM ∧ Fld Z h r0 oC0 "first" "[I" .null ∧ Fld Z h r0 oC0 "end" "[I" .null ∧ own_Oa Z h ob oC2 v0 v1 ∧ own_Box Z h n0 v0 Da La ∧ own_Box Z h n0 v1 Db Lb ∧ Exa Z h rv oC1 ∧ Fld Z h rv oC1 "words" "[J" (.ref wd) ∧ Fld Z h rv oC1 "held" "[Z" (.ref hd) ∧ Fld Z h rv oC1 "blocks" oC5 (.ref il) ∧ Fld Z h rv oC1 "sorted" "Z" (.int 1) ∧ Exa Z h il oC3 ∧ Fld Z h il oC3 "indices" "[I" (.ref ix) ∧ Fld Z h il oC3 "size" "I" (.int 0) ∧ own_Arf Z h ix .int (16 : Int32) (fun i => .int (fi i)) ∧ own_Arf Z h wd .long (16 : Int32) (fun i => .long ((own_w0 (0 : Int64)) i)) ∧ own_Arf Z h hd .boolean (1 : Int32) (fun i => .int ((fun _ => (0 : Int32)) i)) ∧ n0 ≤ r0 ∧ n0 ≤ rv ∧ n0 ≤ wd ∧ n0 ≤ hd ∧ n0 ≤ il ∧ n0 ≤ ix ∧ n0 ≤ ob ∧ r0 ∉ Da ∧ r0 ∉ Db ∧ rv ∉ Da ∧ rv ∉ Db ∧ wd ∉ Da ∧ wd ∉ Db ∧ hd ∉ Da ∧ hd ∉ Db ∧ il ∉ Da ∧ il ∉ Db ∧ ix ∉ Da ∧ ix ∉ Db ∧ ob ∉ Da ∧ ob ∉ Db ∧ ∀ x ∈ Da, x ∉ Db
def own_AMu (Z : State) (h : Heap) (n0 : Nat) (r0 : Addr) (n : Int32) (La Lb : List Int32) (fF0 eF0 : Nat → Int32) : Prop := ∃ (ob : Addr) (rv : Addr) (dl : Int32) (vS : Value) (vM : Value) (fa : Addr) (ea : Addr) (v0 : Value) (v1 : Value) (Da : List Addr) (Db : List Addr) (wd : Addr) (hd : Addr) (il : Addr) (ix : Addr) (fi : Nat → Int32) (fw : Nat → Int64) (fh : Nat → Int32), Exa Z h r0 oC0 ∧ Fld Z h r0 oC0 "receivers" "I" (.int n) ∧ Fld Z h r0 oC0 "outboxes" oC4 (.ref ob) ∧ Fld Z h r0 oC0 "recipients" oC6 (.ref rv) ∧ Fld Z h r0 oC0 "delivered" "I" (.int dl) ∧ Fld Z h r0 oC0 "senders" "[I" vS ∧ Fld Z h r0 oC0 "messages" "[J" vM ∧ Fld Z h r0 oC0 "first" "[I" (.ref fa) ∧ Fld Z h r0 oC0 "end" "[I" (.ref ea) ∧ own_Oa Z h ob oC2 v0 v1 ∧ own_Box Z h n0 v0 Da La ∧ own_Box Z h n0 v1 Db Lb ∧ Exa Z h rv oC1 ∧ Fld Z h rv oC1 "words" "[J" (.ref wd) ∧ Fld Z h rv oC1 "held" "[Z" (.ref hd) ∧ Fld Z h rv oC1 "blocks" oC5 (.ref il) ∧ Fld Z h rv oC1 "sorted" "Z" (.int 1) ∧ Exa Z h il oC3 ∧ Fld Z h il oC3 "indices" "[I" (.ref ix) ∧ Fld Z h il oC3 "size" "I" (.int 1) ∧ own_Arf Z h ix .int (16 : Int32) (fun i => .int (fi i)) ∧ own_Arf Z h wd .long (16 : Int32) (fun i => .long (fw i)) ∧ own_Arf Z h hd .boolean (1 : Int32) (fun i => .int (fh i)) ∧ own_Arf Z h fa .int n (fun i => .int (fF0 i)) ∧ own_Arf Z h ea .int n (fun i => .int (eF0 i)) ∧ fa ≠ ea ∧ ix ≠ fa ∧ ix ≠ ea ∧ fi 0 = 0 ∧ n0 ≤ r0 ∧ n0 ≤ rv ∧ n0 ≤ wd ∧ n0 ≤ hd ∧ n0 ≤ il ∧ n0 ≤ ix ∧ n0 ≤ fa ∧ n0 ≤ ea ∧ n0 ≤ ob ∧ r0 ∉ Da ∧ r0 ∉ Db ∧ rv ∉ Da ∧ rv ∉ Db ∧ wd ∉ Da ∧ wd ∉ Db ∧ hd ∉ Da ∧ hd ∉ Db ∧ il ∉ Da ∧ il ∉ Db ∧ ix ∉ Da ∧ ix ∉ Db ∧ fa ∉ Da ∧ fa ∉ Db ∧ ea ∉ Da ∧ ea ∉ Db ∧ ob ∉ Da ∧ ob ∉ Db ∧ ∀ x ∈ Da, x ∉ Db
def own_AMx (Z : State) (h : Heap) (n0 : Nat) (r0 : Addr) (n : Int32) (La Lb : List Int32) (F E : Nat → Int32) : Prop := (own_AMf Z h n0 r0 n La Lb ∧ F = (fun _ => 0) ∧ E = (fun _ => 0)) ∨ own_AMu Z h n0 r0 n La Lb F E
def own_AMr (Z : State) (h : Heap) (n0 : Nat) (r0 : Addr) (n : Int32) (F E : Nat → Int32) : Prop := Exa Z h r0 oC0 ∧ (((Fld Z h r0 oC0 "first" "[I" .null ∧ Fld Z h r0 oC0 "end" "[I" .null) ∧ F = (fun _ => 0) ∧ E = (fun _ => 0)) ∨ ∃ (fa ea : Addr), (Fld Z h r0 oC0 "first" "[I" (.ref fa) ∧ Fld Z h r0 oC0 "end" "[I" (.ref ea)) ∧ own_Arf Z h fa .int n (fun i => .int (F i)) ∧ own_Arf Z h ea .int n (fun i => .int (E i)))
theorem own_x2r {Z : State} {h : Heap} {n0 : Nat} {r0 : Addr} {n : Int32} {La Lb : List Int32} {F E : Nat → Int32} (H : own_AMx Z h n0 r0 n La Lb F E) : own_AMr Z h n0 r0 n F E := by
  rcases H with ⟨H, rfl, rfl⟩ | H
  · obtain ⟨ob, rv, dl, vS, vM, v0, v1, Da, Db, wd, hd, il, ix, fi, E_r0, F_receivers_r0, F_outboxes_r0, F_recipients_r0, F_delivered_r0, F_senders_r0, F_messages_r0, F_first_r0, F_end_r0, O_ob, B_0, B_1, E_rv, F_words_rv, F_held_rv, F_blocks_rv, F_sorted_rv, E_il, F_indices_il, F_size_il, A_ix, A_wd, A_hd, ge_r0, ge_rv, ge_wd, ge_hd, ge_il, ge_ix, ge_ob, nb_r0_0, nb_r0_1, nb_rv_0, nb_rv_1, nb_wd_0, nb_wd_1, nb_hd_0, nb_hd_1, nb_il_0, nb_il_1, nb_ix_0, nb_ix_1, nb_ob_0, nb_ob_1, hdj⟩ := H
    exact ⟨E_r0, Or.inl ⟨⟨F_first_r0, F_end_r0⟩, rfl, rfl⟩⟩
  · obtain ⟨ob, rv, dl, vS, vM, fa, ea, v0, v1, Da, Db, wd, hd, il, ix, fi, fw, fh, E_r0, F_receivers_r0, F_outboxes_r0, F_recipients_r0, F_delivered_r0, F_senders_r0, F_messages_r0, F_first_r0, F_end_r0, O_ob, B_0, B_1, E_rv, F_words_rv, F_held_rv, F_blocks_rv, F_sorted_rv, E_il, F_indices_il, F_size_il, A_ix, A_wd, A_hd, A_fa, A_ea, ne_fa_ea, ne_ix_fa, ne_ix_ea, hfi, ge_r0, ge_rv, ge_wd, ge_hd, ge_il, ge_ix, ge_fa, ge_ea, ge_ob, nb_r0_0, nb_r0_1, nb_rv_0, nb_rv_1, nb_wd_0, nb_wd_1, nb_hd_0, nb_hd_1, nb_il_0, nb_il_1, nb_ix_0, nb_ix_1, nb_fa_0, nb_fa_1, nb_ea_0, nb_ea_1, nb_ob_0, nb_ob_1, hdj⟩ := H
    exact ⟨E_r0, Or.inr ⟨fa, ea, ⟨F_first_r0, F_end_r0⟩, A_fa, A_ea⟩⟩
theorem own_exf {Z : State} {h : Heap} {n0 : Nat} {r0 : Addr} {n : Int32} {La Lb : List Int32} (H : own_AMf Z h n0 r0 n La Lb) : Exa Z h r0 oC0 := by
  obtain ⟨ob, rv, dl, vS, vM, v0, v1, Da, Db, wd, hd, il, ix, fi, E_r0, F_receivers_r0, F_outboxes_r0, F_recipients_r0, F_delivered_r0, F_senders_r0, F_messages_r0, F_first_r0, F_end_r0, O_ob, B_0, B_1, E_rv, F_words_rv, F_held_rv, F_blocks_rv, F_sorted_rv, E_il, F_indices_il, F_size_il, A_ix, A_wd, A_hd, ge_r0, ge_rv, ge_wd, ge_hd, ge_il, ge_ix, ge_ob, nb_r0_0, nb_r0_1, nb_rv_0, nb_rv_1, nb_wd_0, nb_wd_1, nb_hd_0, nb_hd_1, nb_il_0, nb_il_1, nb_ix_0, nb_ix_1, nb_ob_0, nb_ob_1, hdj⟩ := H; exact E_r0
theorem own_exr {Z : State} {h : Heap} {n0 : Nat} {r0 : Addr} {n : Int32} {F E : Nat → Int32} (H : own_AMr Z h n0 r0 n F E) : Exa Z h r0 oC0 := H.1
theorem own_exx {Z : State} {h : Heap} {n0 : Nat} {r0 : Addr} {n : Int32} {La Lb : List Int32} {F E : Nat → Int32} (H : own_AMx Z h n0 r0 n La Lb F E) : Exa Z h r0 oC0 := (own_x2r H).1
def Qrm6Hf (Z : State) (r0 : Addr) (p1 : Int32) (p2 : Int32) (p3 : Int32) (q4 : Int64) (n : Int32) (La : List Int32) (Lb : List Int32) (h0 : Heap) (n0 : Nat) (v : Option Value) (h : Heap) (L : List Loc) : Prop := v = none ∧ Fr n0 L ∧ h0.size ≤ h.size ∧ own_AMf Z h n0 r0 n (own_psh p1 (0 : Int32) La p3) (own_psh p1 (1 : Int32) Lb p3)
theorem rm6Hf (l : Launch) (Z : State) (a0 : Array Value) (hw : oH Z a0) (ws : List Jvm.Cond) (r0 : Addr) (p1 p2 p3 : Int32) (q4 : Int64) (n : Int32) (La Lb : List Int32) (h0 : Heap) (n0 : Nat) (Z0 : n0 ≤ h0.size) (H : own_AMf Z h0 n0 r0 n La Lb) (hbb : p1 = 0 ∨ p1 = 1) (hl : La.length + Lb.length ≤ 3) :
    MetFree l oM23 (head1 (Jvm.Cond.code oM23 prog_18_method_2_code 7 none :: ws) rm6_room) (fun a U => a = #[(.ref r0), (.int p1), (.int p2), (.int p3), (.long q4)] ∧ Z.Warmed39 U.vm ∧ U.heap = h0) (fun _ _ _ _ _ => True) (fun _ U o U' => ∃ v L, o = .returned v ∧ (Qrm6Hf Z r0 p1 p2 p3 q4 n La Lb h0 n0 v U'.heap L) ∧ FrameEnd U o U' L rm6_room.cells rm6_room.slots) := by
  obtain ⟨ob, rv, dl, vS, vM, v0, v1, Da, Db, wd, hd, il, ix, fi, E_r0, F_receivers_r0, F_outboxes_r0, F_recipients_r0, F_delivered_r0, F_senders_r0, F_messages_r0, F_first_r0, F_end_r0, O_ob, B_0, B_1, E_rv, F_words_rv, F_held_rv, F_blocks_rv, F_sorted_rv, E_il, F_indices_il, F_size_il, A_ix, A_wd, A_hd, ge_r0, ge_rv, ge_wd, ge_hd, ge_il, ge_ix, ge_ob, nb_r0_0, nb_r0_1, nb_rv_0, nb_rv_1, nb_wd_0, nb_wd_1, nb_hd_0, nb_hd_1, nb_il_0, nb_il_1, nb_ix_0, nb_ix_1, nb_ob_0, nb_ob_1, hdj⟩ := H
  intro p e ha hc hk s m a below hf happ hP hK
  obtain ⟨k, o, h1, h2, h3, v, L, h4, hQ, hF⟩ := rm6 l Z a0 hw ws r0 p1 p2 p3 q4 ob v0 v1 Da Db La Lb h0 n0 Z0 E_r0 F_outboxes_r0 O_ob B_0 B_1 ge_ob nb_ob_0 nb_ob_1 hdj hbb hl p e ha hc hk s m a below hf happ hP hK
  obtain ⟨w0, w1, C0, C1, e1, N, K, O', B0', B1', q0, q1, hdj'⟩ := hQ
  have nb_ob_0' := own_nbC nb_ob_0 O_ob.lt q0
  have nb_ob_1' := own_nbC nb_ob_1 O_ob.lt q1
  exact ⟨k, o, h1, h2, h3, v, L, h4, ⟨e1, N, K.1, ob, rv, dl, vS, vM, w0, w1, C0, C1, wd, hd, il, ix, fi, E_r0.keep K, F_receivers_r0.keep K (own_nk (own_ne_oa E_r0 (oW hw 2 rfl) O_ob) nb_r0_0 nb_r0_1), F_outboxes_r0.keep K (own_nk (own_ne_oa E_r0 (oW hw 2 rfl) O_ob) nb_r0_0 nb_r0_1), F_recipients_r0.keep K (own_nk (own_ne_oa E_r0 (oW hw 2 rfl) O_ob) nb_r0_0 nb_r0_1), F_delivered_r0.keep K (own_nk (own_ne_oa E_r0 (oW hw 2 rfl) O_ob) nb_r0_0 nb_r0_1), F_senders_r0.keep K (own_nk (own_ne_oa E_r0 (oW hw 2 rfl) O_ob) nb_r0_0 nb_r0_1), F_messages_r0.keep K (own_nk (own_ne_oa E_r0 (oW hw 2 rfl) O_ob) nb_r0_0 nb_r0_1), F_first_r0.keep K (own_nk (own_ne_oa E_r0 (oW hw 2 rfl) O_ob) nb_r0_0 nb_r0_1), F_end_r0.keep K (own_nk (own_ne_oa E_r0 (oW hw 2 rfl) O_ob) nb_r0_0 nb_r0_1), O', B0', B1', E_rv.keep K, F_words_rv.keep K (own_nk (own_ne_oa E_rv (oW hw 27 rfl) O_ob) nb_rv_0 nb_rv_1), F_held_rv.keep K (own_nk (own_ne_oa E_rv (oW hw 27 rfl) O_ob) nb_rv_0 nb_rv_1), F_blocks_rv.keep K (own_nk (own_ne_oa E_rv (oW hw 27 rfl) O_ob) nb_rv_0 nb_rv_1), F_sorted_rv.keep K (own_nk (own_ne_oa E_rv (oW hw 27 rfl) O_ob) nb_rv_0 nb_rv_1), E_il.keep K, F_indices_il.keep K (own_nk (own_ne_oa E_il (oW hw 38 rfl) O_ob) nb_il_0 nb_il_1), F_size_il.keep K (own_nk (own_ne_oa E_il (oW hw 38 rfl) O_ob) nb_il_0 nb_il_1), A_ix.keep K (own_nk (own_ne_oarf A_ix O_ob (by decide)) nb_ix_0 nb_ix_1), A_wd.keep K (own_nk (own_ne_oarf A_wd O_ob (by decide)) nb_wd_0 nb_wd_1), A_hd.keep K (own_nk (own_ne_oarf A_hd O_ob (by decide)) nb_hd_0 nb_hd_1), ge_r0, ge_rv, ge_wd, ge_hd, ge_il, ge_ix, ge_ob, own_nbC nb_r0_0 E_r0.lt q0, own_nbC nb_r0_1 E_r0.lt q1, own_nbC nb_rv_0 E_rv.lt q0, own_nbC nb_rv_1 E_rv.lt q1, own_nbC nb_wd_0 A_wd.lt q0, own_nbC nb_wd_1 A_wd.lt q1, own_nbC nb_hd_0 A_hd.lt q0, own_nbC nb_hd_1 A_hd.lt q1, own_nbC nb_il_0 E_il.lt q0, own_nbC nb_il_1 E_il.lt q1, own_nbC nb_ix_0 A_ix.lt q0, own_nbC nb_ix_1 A_ix.lt q1, nb_ob_0', nb_ob_1', hdj'⟩, hF⟩
def Qrm6Hu (Z : State) (r0 : Addr) (p1 : Int32) (p2 : Int32) (p3 : Int32) (q4 : Int64) (n : Int32) (La : List Int32) (Lb : List Int32) (fF0 : Nat → Int32) (eF0 : Nat → Int32) (h0 : Heap) (n0 : Nat) (v : Option Value) (h : Heap) (L : List Loc) : Prop := v = none ∧ Fr n0 L ∧ h0.size ≤ h.size ∧ own_AMu Z h n0 r0 n (own_psh p1 (0 : Int32) La p3) (own_psh p1 (1 : Int32) Lb p3) fF0 eF0
theorem rm6Hu (l : Launch) (Z : State) (a0 : Array Value) (hw : oH Z a0) (ws : List Jvm.Cond) (r0 : Addr) (p1 p2 p3 : Int32) (q4 : Int64) (n : Int32) (La Lb : List Int32) (fF0 eF0 : Nat → Int32) (h0 : Heap) (n0 : Nat) (Z0 : n0 ≤ h0.size) (H : own_AMu Z h0 n0 r0 n La Lb fF0 eF0) (hbb : p1 = 0 ∨ p1 = 1) (hl : La.length + Lb.length ≤ 3) :
    MetFree l oM23 (head1 (Jvm.Cond.code oM23 prog_18_method_2_code 7 none :: ws) rm6_room) (fun a U => a = #[(.ref r0), (.int p1), (.int p2), (.int p3), (.long q4)] ∧ Z.Warmed39 U.vm ∧ U.heap = h0) (fun _ _ _ _ _ => True) (fun _ U o U' => ∃ v L, o = .returned v ∧ (Qrm6Hu Z r0 p1 p2 p3 q4 n La Lb fF0 eF0 h0 n0 v U'.heap L) ∧ FrameEnd U o U' L rm6_room.cells rm6_room.slots) := by
  obtain ⟨ob, rv, dl, vS, vM, fa, ea, v0, v1, Da, Db, wd, hd, il, ix, fi, fw, fh, E_r0, F_receivers_r0, F_outboxes_r0, F_recipients_r0, F_delivered_r0, F_senders_r0, F_messages_r0, F_first_r0, F_end_r0, O_ob, B_0, B_1, E_rv, F_words_rv, F_held_rv, F_blocks_rv, F_sorted_rv, E_il, F_indices_il, F_size_il, A_ix, A_wd, A_hd, A_fa, A_ea, ne_fa_ea, ne_ix_fa, ne_ix_ea, hfi, ge_r0, ge_rv, ge_wd, ge_hd, ge_il, ge_ix, ge_fa, ge_ea, ge_ob, nb_r0_0, nb_r0_1, nb_rv_0, nb_rv_1, nb_wd_0, nb_wd_1, nb_hd_0, nb_hd_1, nb_il_0, nb_il_1, nb_ix_0, nb_ix_1, nb_fa_0, nb_fa_1, nb_ea_0, nb_ea_1, nb_ob_0, nb_ob_1, hdj⟩ := H
  intro p e ha hc hk s m a below hf happ hP hK
  obtain ⟨k, o, h1, h2, h3, v, L, h4, hQ, hF⟩ := rm6 l Z a0 hw ws r0 p1 p2 p3 q4 ob v0 v1 Da Db La Lb h0 n0 Z0 E_r0 F_outboxes_r0 O_ob B_0 B_1 ge_ob nb_ob_0 nb_ob_1 hdj hbb hl p e ha hc hk s m a below hf happ hP hK
  obtain ⟨w0, w1, C0, C1, e1, N, K, O', B0', B1', q0, q1, hdj'⟩ := hQ
  have nb_ob_0' := own_nbC nb_ob_0 O_ob.lt q0
  have nb_ob_1' := own_nbC nb_ob_1 O_ob.lt q1
  exact ⟨k, o, h1, h2, h3, v, L, h4, ⟨e1, N, K.1, ob, rv, dl, vS, vM, fa, ea, w0, w1, C0, C1, wd, hd, il, ix, fi, fw, fh, E_r0.keep K, F_receivers_r0.keep K (own_nk (own_ne_oa E_r0 (oW hw 2 rfl) O_ob) nb_r0_0 nb_r0_1), F_outboxes_r0.keep K (own_nk (own_ne_oa E_r0 (oW hw 2 rfl) O_ob) nb_r0_0 nb_r0_1), F_recipients_r0.keep K (own_nk (own_ne_oa E_r0 (oW hw 2 rfl) O_ob) nb_r0_0 nb_r0_1), F_delivered_r0.keep K (own_nk (own_ne_oa E_r0 (oW hw 2 rfl) O_ob) nb_r0_0 nb_r0_1), F_senders_r0.keep K (own_nk (own_ne_oa E_r0 (oW hw 2 rfl) O_ob) nb_r0_0 nb_r0_1), F_messages_r0.keep K (own_nk (own_ne_oa E_r0 (oW hw 2 rfl) O_ob) nb_r0_0 nb_r0_1), F_first_r0.keep K (own_nk (own_ne_oa E_r0 (oW hw 2 rfl) O_ob) nb_r0_0 nb_r0_1), F_end_r0.keep K (own_nk (own_ne_oa E_r0 (oW hw 2 rfl) O_ob) nb_r0_0 nb_r0_1), O', B0', B1', E_rv.keep K, F_words_rv.keep K (own_nk (own_ne_oa E_rv (oW hw 27 rfl) O_ob) nb_rv_0 nb_rv_1), F_held_rv.keep K (own_nk (own_ne_oa E_rv (oW hw 27 rfl) O_ob) nb_rv_0 nb_rv_1), F_blocks_rv.keep K (own_nk (own_ne_oa E_rv (oW hw 27 rfl) O_ob) nb_rv_0 nb_rv_1), F_sorted_rv.keep K (own_nk (own_ne_oa E_rv (oW hw 27 rfl) O_ob) nb_rv_0 nb_rv_1), E_il.keep K, F_indices_il.keep K (own_nk (own_ne_oa E_il (oW hw 38 rfl) O_ob) nb_il_0 nb_il_1), F_size_il.keep K (own_nk (own_ne_oa E_il (oW hw 38 rfl) O_ob) nb_il_0 nb_il_1), A_ix.keep K (own_nk (own_ne_oarf A_ix O_ob (by decide)) nb_ix_0 nb_ix_1), A_wd.keep K (own_nk (own_ne_oarf A_wd O_ob (by decide)) nb_wd_0 nb_wd_1), A_hd.keep K (own_nk (own_ne_oarf A_hd O_ob (by decide)) nb_hd_0 nb_hd_1), A_fa.keep K (own_nk (own_ne_oarf A_fa O_ob (by decide)) nb_fa_0 nb_fa_1), A_ea.keep K (own_nk (own_ne_oarf A_ea O_ob (by decide)) nb_ea_0 nb_ea_1), ne_fa_ea, ne_ix_fa, ne_ix_ea, hfi, ge_r0, ge_rv, ge_wd, ge_hd, ge_il, ge_ix, ge_fa, ge_ea, ge_ob, own_nbC nb_r0_0 E_r0.lt q0, own_nbC nb_r0_1 E_r0.lt q1, own_nbC nb_rv_0 E_rv.lt q0, own_nbC nb_rv_1 E_rv.lt q1, own_nbC nb_wd_0 A_wd.lt q0, own_nbC nb_wd_1 A_wd.lt q1, own_nbC nb_hd_0 A_hd.lt q0, own_nbC nb_hd_1 A_hd.lt q1, own_nbC nb_il_0 E_il.lt q0, own_nbC nb_il_1 E_il.lt q1, own_nbC nb_ix_0 A_ix.lt q0, own_nbC nb_ix_1 A_ix.lt q1, own_nbC nb_fa_0 A_fa.lt q0, own_nbC nb_fa_1 A_fa.lt q1, own_nbC nb_ea_0 A_ea.lt q0, own_nbC nb_ea_1 A_ea.lt q1, nb_ob_0', nb_ob_1', hdj'⟩, hF⟩
def Qrm6Hx (Z : State) (r0 : Addr) (p1 : Int32) (p2 : Int32) (p3 : Int32) (q4 : Int64) (n : Int32) (La : List Int32) (Lb : List Int32) (fF0 : Nat → Int32) (eF0 : Nat → Int32) (h0 : Heap) (n0 : Nat) (v : Option Value) (h : Heap) (L : List Loc) : Prop := v = none ∧ Fr n0 L ∧ h0.size ≤ h.size ∧ own_AMx Z h n0 r0 n (own_psh p1 (0 : Int32) La p3) (own_psh p1 (1 : Int32) Lb p3) fF0 eF0
theorem rm6Hx (l : Launch) (Z : State) (a0 : Array Value) (hw : oH Z a0) (ws : List Jvm.Cond) (r0 : Addr) (p1 p2 p3 : Int32) (q4 : Int64) (n : Int32) (La Lb : List Int32) (fF0 eF0 : Nat → Int32) (h0 : Heap) (n0 : Nat) (Z0 : n0 ≤ h0.size) (H : own_AMx Z h0 n0 r0 n La Lb fF0 eF0) (hbb : p1 = 0 ∨ p1 = 1) (hl : La.length + Lb.length ≤ 3) :
    MetFree l oM23 (head1 (Jvm.Cond.code oM23 prog_18_method_2_code 7 none :: ws) rm6_room) (fun a U => a = #[(.ref r0), (.int p1), (.int p2), (.int p3), (.long q4)] ∧ Z.Warmed39 U.vm ∧ U.heap = h0) (fun _ _ _ _ _ => True) (fun _ U o U' => ∃ v L, o = .returned v ∧ (Qrm6Hx Z r0 p1 p2 p3 q4 n La Lb fF0 eF0 h0 n0 v U'.heap L) ∧ FrameEnd U o U' L rm6_room.cells rm6_room.slots) := by
  intro p e ha hc hk s m a below hf happ hP hK
  rcases H with ⟨H, rfl, rfl⟩ | H
  · obtain ⟨k, o, h1, h2, h3, v, L, h4, ⟨e1, N, sz, H'⟩, hF⟩ := rm6Hf l Z a0 hw ws r0 p1 p2 p3 q4 n La Lb h0 n0 Z0 H hbb hl p e ha hc hk s m a below hf happ hP hK
    exact ⟨k, o, h1, h2, h3, v, L, h4, ⟨e1, N, sz, Or.inl ⟨H', rfl, rfl⟩⟩, hF⟩
  · obtain ⟨k, o, h1, h2, h3, v, L, h4, ⟨e1, N, sz, H'⟩, hF⟩ := rm6Hu l Z a0 hw ws r0 p1 p2 p3 q4 n La Lb fF0 eF0 h0 n0 Z0 H hbb hl p e ha hc hk s m a below hf happ hP hK
    exact ⟨k, o, h1, h2, h3, v, L, h4, ⟨e1, N, sz, Or.inr H'⟩, hF⟩
def Qrm9D1 (Z : State) (r0 : Addr) (p1 : Int32) (n : Int32) (La : List Int32) (Lb : List Int32) (h0 : Heap) (n0 : Nat) (v : Option Value) (h : Heap) (L : List Loc) : Prop := v = some (.int (own_dr La Lb)) ∧ Fr n0 L ∧ h0.size ≤ h.size ∧ own_AMx Z h n0 r0 n [] [] (own_FF La Lb) (own_EE La Lb) ∧ own_AMr Z h n0 r0 n (own_FF La Lb) (own_EE La Lb)
theorem rm9D1 (l : Launch) (Z : State) (a0 : Array Value) (hw : oH Z a0) (ws : List Jvm.Cond) (r0 : Addr) (p1 n : Int32) (La Lb : List Int32) (h0 : Heap) (n0 : Nat) (Z0 : n0 ≤ h0.size) (H : own_AMf Z h0 n0 r0 n La Lb) (hn : own_n14 n) (hl : La.length + Lb.length ≤ 3) (hm : ∀ r ∈ La ++ Lb, own_in r n) :
    MetFree l oM24 (head1 (Jvm.Cond.code oM24 prog_18_method_9_code 11 (some .boolean) :: ws) rm9t_room) (fun a U => a = #[(.ref r0), (.int p1)] ∧ Z.Warmed39 U.vm ∧ U.heap = h0) (fun _ _ _ _ _ => True) (fun _ U o U' => ∃ v L, o = .returned v ∧ (Qrm9D1 Z r0 p1 n La Lb h0 n0 v U'.heap L) ∧ FrameEnd U o U' L rm9t_room.cells rm9t_room.slots) := by
  obtain ⟨ob, rv, dl, vS, vM, v0, v1, Da, Db, wd, hd, il, ix, fi, E_r0, F_receivers_r0, F_outboxes_r0, F_recipients_r0, F_delivered_r0, F_senders_r0, F_messages_r0, F_first_r0, F_end_r0, O_ob, B_0, B_1, E_rv, F_words_rv, F_held_rv, F_blocks_rv, F_sorted_rv, E_il, F_indices_il, F_size_il, A_ix, A_wd, A_hd, ge_r0, ge_rv, ge_wd, ge_hd, ge_il, ge_ix, ge_ob, nb_r0_0, nb_r0_1, nb_rv_0, nb_rv_1, nb_wd_0, nb_wd_1, nb_hd_0, nb_hd_1, nb_il_0, nb_il_1, nb_ix_0, nb_ix_1, nb_ob_0, nb_ob_1, hdj⟩ := H
  intro p e ha hc hk s m a below hf happ hP hK
  by_cases hz : La ++ Lb = []
  · obtain ⟨k, o, h1, h2, h3, v, L, h4, hQ, hF⟩ := rm9f0 l Z a0 hw ws r0 p1 n ob rv dl vS vM v0 v1 Da Db La Lb wd hd il ix fi h0 n0 Z0 E_r0 F_receivers_r0 F_outboxes_r0 F_recipients_r0 F_delivered_r0 F_senders_r0 F_messages_r0 F_first_r0 F_end_r0 O_ob B_0 B_1 E_rv F_words_rv F_held_rv F_blocks_rv F_sorted_rv E_il F_indices_il F_size_il A_ix A_wd A_hd ge_r0 ge_rv ge_wd ge_hd ge_il ge_ix nb_r0_0 nb_r0_1 nb_rv_0 nb_rv_1 nb_wd_0 nb_wd_1 nb_hd_0 nb_hd_1 nb_il_0 nb_il_1 nb_ix_0 nb_ix_1 hdj hn hl hm hz p e ha hc hk s m a below hf happ hP hK
    obtain ⟨dx, vSx, vMx, e1, N, sz, E_r0', F_receivers_r0', F_outboxes_r0', F_recipients_r0', F_delivered_r0', F_senders_r0', F_messages_r0', F_first_r0', F_end_r0', O_ob', B_0', B_1', E_rv', F_words_rv', F_held_rv', F_blocks_rv', F_sorted_rv', E_il', F_indices_il', F_size_il', A_wd', A_hd', A_ix'⟩ := hQ
    have H' : own_AMx Z _ n0 r0 n [] [] (own_FF La Lb) (own_EE La Lb) := Or.inl ⟨⟨ob, rv, dx, vSx, vMx, v0, v1, Da, Db, wd, hd, il, ix, fi, E_r0', F_receivers_r0', F_outboxes_r0', F_recipients_r0', F_delivered_r0', F_senders_r0', F_messages_r0', F_first_r0', F_end_r0', O_ob', B_0', B_1', E_rv', F_words_rv', F_held_rv', F_blocks_rv', F_sorted_rv', E_il', F_indices_il', F_size_il', A_ix', A_wd', A_hd', ge_r0, ge_rv, ge_wd, ge_hd, ge_il, ge_ix, ge_ob, nb_r0_0, nb_r0_1, nb_rv_0, nb_rv_1, nb_wd_0, nb_wd_1, nb_hd_0, nb_hd_1, nb_il_0, nb_il_1, nb_ix_0, nb_ix_1, nb_ob_0, nb_ob_1, hdj⟩, own_FF0 hz, own_EE0 hz⟩
    exact ⟨k, o, h1, h2, h3, v, L, h4, ⟨by rw [e1, own_dr, if_pos hz], N, sz, H', own_x2r H'⟩, hF⟩
  · obtain ⟨k, o, h1, h2, h3, v, L, h4, hQ, hF⟩ := rm9f1 l Z a0 hw ws r0 p1 n ob rv dl vS vM v0 v1 Da Db La Lb wd hd il ix fi h0 n0 Z0 E_r0 F_receivers_r0 F_outboxes_r0 F_recipients_r0 F_delivered_r0 F_senders_r0 F_messages_r0 F_first_r0 F_end_r0 O_ob B_0 B_1 E_rv F_words_rv F_held_rv F_blocks_rv F_sorted_rv E_il F_indices_il F_size_il A_ix A_wd A_hd ge_r0 ge_rv ge_wd ge_hd ge_il ge_ix nb_r0_0 nb_r0_1 nb_rv_0 nb_rv_1 nb_wd_0 nb_wd_1 nb_hd_0 nb_hd_1 nb_il_0 nb_il_1 nb_ix_0 nb_ix_1 hdj hn hl hm hz p e ha hc hk s m a below hf happ hP hK
    obtain ⟨dx, vSx, vMx, fy, ey, fwx, gx, e1, N, sz, E_r0', F_receivers_r0', F_outboxes_r0', F_recipients_r0', F_delivered_r0', F_senders_r0', F_messages_r0', F_first_r0', F_end_r0', O_ob', B_0', B_1', E_rv', F_words_rv', F_held_rv', F_blocks_rv', F_sorted_rv', E_il', F_indices_il', F_size_il', A_wd', A_hd', A_ix', A_fy', A_ey', ne_fy_ey', ne_ix_fy', ne_ix_ey', ge_fy', ge_ey', nb_fy_0', nb_fy_1', nb_ey_0', nb_ey_1', hP'⟩ := hQ
    have H' : own_AMx Z _ n0 r0 n [] [] (own_FF La Lb) (own_EE La Lb) := Or.inr ⟨ob, rv, dx, vSx, vMx, fy, ey, v0, v1, Da, Db, wd, hd, il, ix, gx, fwx, _, E_r0', F_receivers_r0', F_outboxes_r0', F_recipients_r0', F_delivered_r0', F_senders_r0', F_messages_r0', F_first_r0', F_end_r0', O_ob', B_0', B_1', E_rv', F_words_rv', F_held_rv', F_blocks_rv', F_sorted_rv', E_il', F_indices_il', F_size_il', A_ix', A_wd', A_hd', A_fy', A_ey', ne_fy_ey', ne_ix_fy', ne_ix_ey', hP', ge_r0, ge_rv, ge_wd, ge_hd, ge_il, ge_ix, ge_fy', ge_ey', ge_ob, nb_r0_0, nb_r0_1, nb_rv_0, nb_rv_1, nb_wd_0, nb_wd_1, nb_hd_0, nb_hd_1, nb_il_0, nb_il_1, nb_ix_0, nb_ix_1, nb_fy_0', nb_fy_1', nb_ey_0', nb_ey_1', nb_ob_0, nb_ob_1, hdj⟩
    exact ⟨k, o, h1, h2, h3, v, L, h4, ⟨by rw [e1, own_dr, if_neg hz], N, sz, H', own_x2r H'⟩, hF⟩
def Qrm9D2 (Z : State) (r0 : Addr) (p1 : Int32) (n : Int32) (La : List Int32) (Lb : List Int32) (fF0 : Nat → Int32) (eF0 : Nat → Int32) (h0 : Heap) (n0 : Nat) (v : Option Value) (h : Heap) (L : List Loc) : Prop := v = some (.int (own_dr La Lb)) ∧ Fr n0 L ∧ h0.size ≤ h.size ∧ own_AMr Z h n0 r0 n (own_FF La Lb) (own_EE La Lb)
theorem rm9D2 (l : Launch) (Z : State) (a0 : Array Value) (hw : oH Z a0) (ws : List Jvm.Cond) (r0 : Addr) (p1 n : Int32) (La Lb : List Int32) (fF0 eF0 : Nat → Int32) (h0 : Heap) (n0 : Nat) (Z0 : n0 ≤ h0.size) (H : own_AMx Z h0 n0 r0 n La Lb fF0 eF0) (hn : own_n14 n) (hl : La.length + Lb.length ≤ 3) (hm : ∀ r ∈ La ++ Lb, own_in r n) :
    MetFree l oM24 (head1 (Jvm.Cond.code oM24 prog_18_method_9_code 11 (some .boolean) :: ws) rm9t_room) (fun a U => a = #[(.ref r0), (.int p1)] ∧ Z.Warmed39 U.vm ∧ U.heap = h0) (fun _ _ _ _ _ => True) (fun _ U o U' => ∃ v L, o = .returned v ∧ (Qrm9D2 Z r0 p1 n La Lb fF0 eF0 h0 n0 v U'.heap L) ∧ FrameEnd U o U' L rm9t_room.cells rm9t_room.slots) := by
  rcases H with ⟨H, -, -⟩ | H
  · intro p e ha hc hk s m a below hf happ hP hK
    obtain ⟨k, o, h1, h2, h3, v, L, h4, ⟨e1, N, sz, -, H'⟩, hF⟩ := rm9D1 l Z a0 hw ws r0 p1 n La Lb h0 n0 Z0 H hn hl hm p e ha hc hk s m a below hf happ hP hK
    exact ⟨k, o, h1, h2, h3, v, L, h4, ⟨e1, N, sz, H'⟩, hF⟩
  · obtain ⟨ob, rv, dl, vS, vM, fa, ea, v0, v1, Da, Db, wd, hd, il, ix, fi, fw, fh, E_r0, F_receivers_r0, F_outboxes_r0, F_recipients_r0, F_delivered_r0, F_senders_r0, F_messages_r0, F_first_r0, F_end_r0, O_ob, B_0, B_1, E_rv, F_words_rv, F_held_rv, F_blocks_rv, F_sorted_rv, E_il, F_indices_il, F_size_il, A_ix, A_wd, A_hd, A_fa, A_ea, ne_fa_ea, ne_ix_fa, ne_ix_ea, hfi, ge_r0, ge_rv, ge_wd, ge_hd, ge_il, ge_ix, ge_fa, ge_ea, ge_ob, nb_r0_0, nb_r0_1, nb_rv_0, nb_rv_1, nb_wd_0, nb_wd_1, nb_hd_0, nb_hd_1, nb_il_0, nb_il_1, nb_ix_0, nb_ix_1, nb_fa_0, nb_fa_1, nb_ea_0, nb_ea_1, nb_ob_0, nb_ob_1, hdj⟩ := H
    intro p e ha hc hk s m a below hf happ hP hK
    obtain ⟨k, o, h1, h2, h3, v, L, h4, hQ, hF⟩ := rm9u l Z a0 hw ws r0 p1 n ob rv dl vS vM fa ea v0 v1 Da Db La Lb wd hd il ix fi fw fh fF0 eF0 h0 n0 Z0 E_r0 F_receivers_r0 F_outboxes_r0 F_recipients_r0 F_delivered_r0 F_senders_r0 F_messages_r0 F_first_r0 F_end_r0 O_ob B_0 B_1 E_rv F_words_rv F_held_rv F_blocks_rv F_sorted_rv E_il F_indices_il F_size_il A_ix A_wd A_hd A_fa A_ea ne_fa_ea ne_ix_fa ne_ix_ea hfi ge_r0 ge_rv ge_wd ge_hd ge_il ge_ix ge_fa ge_ea nb_r0_0 nb_r0_1 nb_rv_0 nb_rv_1 nb_wd_0 nb_wd_1 nb_hd_0 nb_hd_1 nb_il_0 nb_il_1 nb_ix_0 nb_ix_1 nb_fa_0 nb_fa_1 nb_ea_0 nb_ea_1 hdj hn hl hm p e ha hc hk s m a below hf happ hP hK
    obtain ⟨fy, ey, e1, N, sz, E_r0', F_first_r0', F_end_r0', A_fy', A_ey'⟩ := hQ
    exact ⟨k, o, h1, h2, h3, v, L, h4, ⟨e1, N, sz, E_r0', Or.inr ⟨fy, ey, ⟨F_first_r0', F_end_r0'⟩, A_fy', A_ey'⟩⟩, hF⟩
theorem d23_0 : oQ oD25 0 (.aload_n 0) 1 := by decide +kernel
theorem d23_1 : oQ oD25 1 (.getfield 47) 3 := by decide +kernel
theorem d23_4 : oQ oD25 4 (.ifnonnull 7) 3 := by decide +kernel
theorem d23_7 : oQ oD25 7 (.iconst 0) 1 := by decide +kernel
theorem d23_8 : oQ oD25 8 (.goto 9) 3 := by decide +kernel
theorem d23_17 : oQ oD25 17 .ireturn 1 := by decide +kernel
theorem pn_23 : plainName oC0 = true := by first | (simp [plainName, overriddenIn]; done) | decide +kernel
theorem ef_23 (m : MethodId) (r0 : Addr) (p1 : Int32) : entryFrame m #[(.ref r0), (.int p1)] 2 = mkF m 0 #[oR r0, oI p1] [] := by first | (simp [entryFrame, mkF, argsToLocals, Value.category]; done) | rfl
def rm23n_room : Room := { frames := 0, cells := 0, slots := 0, locals := 0 }
def Qrm23n (Z : State) (r0 : Addr) (p1 : Int32) (h0 : Heap) (n0 : Nat) (v : Option Value) (h : Heap) (L : List Loc) : Prop := v = some (.int 0) ∧ Fr n0 L ∧ h = h0
set_option maxRecDepth 65536 in
set_option maxHeartbeats 40000000 in
theorem rm23n (l : Launch) (Z : State) (a0 : Array Value) (hw : oH Z a0) (ws : List Jvm.Cond) (r0 : Addr) (p1 : Int32) (h0 : Heap) (n0 : Nat) (Z0 : n0 ≤ h0.size) (F_first_r0_0 : Fld Z h0 r0 oC0 "first" "[I" .null) :
    MetFree l oM25 (head1 (Jvm.Cond.code oM25 prog_18_method_3_code 2 (some .int) :: ws) rm23n_room) (fun a U => a = #[(.ref r0), (.int p1)] ∧ Z.Warmed39 U.vm ∧ U.heap = h0) (fun _ _ _ _ _ => True) (fun _ U o U' => ∃ v L, o = .returned v ∧ Qrm23n Z r0 p1 h0 n0 v U'.heap L ∧ FrameEnd U o U' L rm23n_room.cells rm23n_room.slots) := by
 refine MetFree.of_bodySF (plainFor_of_name pn_23) hisR ?_
 intro p e s m args below meth c s₁ Bd hml0 hP hK
 obtain ⟨rfl, hZ, hh⟩ := hP
 have hx := Bd.exec
 have hby := Bd.bytes
 have hml : c.maxLocals = 2 := hml0
 have hown : s.vm.findClass oC0 = some m.cls := findClass_of_methodNamed Bd.named
 have hnm := (name_of_methodNamed Bd.named Bd.method).1
 have hlk : meth.locks = false := BodyLoose.notSynchronized Bd
 have X0 : Stand p l e rm23n_room s m #[(.ref r0), (.int p1)] below meth c s₁ [] 0 0 := Stand.of_body Bd
 have e0 : s₁.heap = h0 := by rw [← hh, Bd.state]; rfl
 have N0 := Fr.nil n0
 show own_Fin p.tables e below s (Qrm23n Z r0 p1 h0 n0) rm23n_room.cells rm23n_room.slots (s₁.setTop (entryFrame m #[(.ref r0), (.int p1)] 2))
 rw [ef_23]
 show oF (s₁.setTop (mkF m 0 #[oR r0, oI p1] []))
 refine own_go (fun _ k => XS.aloadN X0.here hx rfl (hb hby d23_0) rfl rfl k) ?_
 obtain ⟨T1, X1, e1, st1⟩ := getF X0 hx hZ hown (host := "") (Or.inl (oW hw 121 rfl)) Via.refl e0 F_first_r0_0 (g := (mkF m 1 #[oR r0, oI p1] [(.ref r0)])) rfl rfl (hb hby d23_1)
 refine own_go (fun tg k => st1 tg k) ?_
 refine own_go (fun _ k => XS.ifnonnullNo X1.here hx rfl (hb hby d23_4) rfl (XS.iconst X1.here hx rfl (hb hby d23_7) (XS.goto X1.here hx rfl (pc0 := 8) (pc' := 17) rfl (hb hby d23_8) (by decide) (by decide) k))) ?_
 refine own_ret X1 hx hlk Bd.returns rfl (Or.inl ⟨rfl, by simp, _, rfl⟩) (hb hby d23_17) (Nat.le_of_ble_eq_true rfl) (Nat.le_of_ble_eq_true rfl) ?_
 refine ⟨?_, N0, e1⟩
 · rfl
theorem d23_11 : oQ oD25 11 (.aload_n 0) 1 := by decide +kernel
theorem d23_12 : oQ oD25 12 (.getfield 47) 3 := by decide +kernel
theorem d23_15 : oQ oD25 15 (.iload_n 1) 1 := by decide +kernel
theorem d23_16 : oQ oD25 16 .iaload 1 := by decide +kernel
def Qrm23a (Z : State) (r0 : Addr) (p1 : Int32) (fa : Addr) (n : Int32) (f : Nat → Int32) (h0 : Heap) (n0 : Nat) (v : Option Value) (h : Heap) (L : List Loc) : Prop := v = some (.int (f p1.toNatClampNeg)) ∧ Fr n0 L ∧ h = h0
set_option maxRecDepth 65536 in
set_option maxHeartbeats 40000000 in
theorem rm23a (l : Launch) (Z : State) (a0 : Array Value) (hw : oH Z a0) (ws : List Jvm.Cond) (r0 : Addr) (p1 : Int32) (fa : Addr) (n : Int32) (f : Nat → Int32) (h0 : Heap) (n0 : Nat) (Z0 : n0 ≤ h0.size) (F_first_r0_0 : Fld Z h0 r0 oC0 "first" "[I" (.ref fa)) (A_fa_0 : own_Arf Z h0 fa .int n (fun i => .int (f i))) (hp : ¬ p1 < 0 ∧ p1 < n) :
    MetFree l oM25 (head1 (Jvm.Cond.code oM25 prog_18_method_3_code 2 (some .int) :: ws) rm23n_room) (fun a U => a = #[(.ref r0), (.int p1)] ∧ Z.Warmed39 U.vm ∧ U.heap = h0) (fun _ _ _ _ _ => True) (fun _ U o U' => ∃ v L, o = .returned v ∧ Qrm23a Z r0 p1 fa n f h0 n0 v U'.heap L ∧ FrameEnd U o U' L rm23n_room.cells rm23n_room.slots) := by
 refine MetFree.of_bodySF (plainFor_of_name pn_23) hisR ?_
 intro p e s m args below meth c s₁ Bd hml0 hP hK
 obtain ⟨rfl, hZ, hh⟩ := hP
 have hx := Bd.exec
 have hby := Bd.bytes
 have hml : c.maxLocals = 2 := hml0
 have hown : s.vm.findClass oC0 = some m.cls := findClass_of_methodNamed Bd.named
 have hnm := (name_of_methodNamed Bd.named Bd.method).1
 have hlk : meth.locks = false := BodyLoose.notSynchronized Bd
 have X0 : Stand p l e rm23n_room s m #[(.ref r0), (.int p1)] below meth c s₁ [] 0 0 := Stand.of_body Bd
 have e0 : s₁.heap = h0 := by rw [← hh, Bd.state]; rfl
 have N0 := Fr.nil n0
 show own_Fin p.tables e below s (Qrm23a Z r0 p1 fa n f h0 n0) rm23n_room.cells rm23n_room.slots (s₁.setTop (entryFrame m #[(.ref r0), (.int p1)] 2))
 rw [ef_23]
 show oF (s₁.setTop (mkF m 0 #[oR r0, oI p1] []))
 refine own_go (fun _ k => XS.aloadN X0.here hx rfl (hb hby d23_0) rfl rfl k) ?_
 obtain ⟨T1, X1, e1, st1⟩ := getF X0 hx hZ hown (host := "") (Or.inl (oW hw 121 rfl)) Via.refl e0 F_first_r0_0 (g := (mkF m 1 #[oR r0, oI p1] [(.ref r0)])) rfl rfl (hb hby d23_1)
 refine own_go (fun tg k => st1 tg k) ?_
 refine own_go (fun _ k => XS.ifnonnullYes X1.here hx rfl (pc0 := 4) (pc' := 11) rfl (hb hby d23_4) rfl (by decide) (by decide) (XS.aloadN X1.here hx rfl (hb hby d23_11) rfl rfl k)) ?_
 obtain ⟨T2, X2, e2, st2⟩ := getF X1 hx hZ hown (host := "") (Or.inl (oW hw 121 rfl)) Via.refl e1 F_first_r0_0 (g := (mkF m 12 #[oR r0, oI p1] [(.ref r0)])) rfl rfl (hb hby d23_12)
 refine own_go (fun tg k => st2 tg k) ?_
 refine own_go (fun _ k => XS.iloadN X2.here hx rfl (hb hby d23_15) rfl k) ?_
 refine own_go (fun tg k => own_iaload X2 hx hZ e2 A_fa_0 (j := p1) hp (x := (f p1.toNatClampNeg)) rfl (g := (mkF m 16 #[oR r0, oI p1] [(.int p1), (.ref fa)])) rfl rfl (hb hby d23_16) tg k) ?_
 show oF (T2.setTop (mkF m 17 #[oR r0, oI p1] [(.int (f p1.toNatClampNeg))]))
 refine own_ret X2 hx hlk Bd.returns rfl (Or.inl ⟨rfl, by simp, _, rfl⟩) (hb hby d23_17) (Nat.le_of_ble_eq_true rfl) (Nat.le_of_ble_eq_true rfl) ?_
 refine ⟨?_, N0, e2⟩
 · rfl
def Qrm23H (Z : State) (r0 : Addr) (p1 : Int32) (n : Int32) (F : Nat → Int32) (E : Nat → Int32) (h0 : Heap) (n0 : Nat) (v : Option Value) (h : Heap) (L : List Loc) : Prop := v = some (.int (F p1.toNatClampNeg)) ∧ Fr n0 L ∧ h = h0
theorem rm23H (l : Launch) (Z : State) (a0 : Array Value) (hw : oH Z a0) (ws : List Jvm.Cond) (r0 : Addr) (p1 n : Int32) (F E : Nat → Int32) (h0 : Heap) (n0 : Nat) (Z0 : n0 ≤ h0.size) (H : own_AMr Z h0 n0 r0 n F E) (hp : own_in p1 n) :
    MetFree l oM25 (head1 (Jvm.Cond.code oM25 prog_18_method_3_code 2 (some .int) :: ws) rm23n_room) (fun a U => a = #[(.ref r0), (.int p1)] ∧ Z.Warmed39 U.vm ∧ U.heap = h0) (fun _ _ _ _ _ => True) (fun _ U o U' => ∃ v L, o = .returned v ∧ (Qrm23H Z r0 p1 n F E h0 n0 v U'.heap L) ∧ FrameEnd U o U' L rm23n_room.cells rm23n_room.slots) := by
  obtain ⟨-, ⟨⟨f1, f2⟩, rfl, rfl⟩ | ⟨fa, ea, ⟨f1, f2⟩, a1, a2⟩⟩ := H
  · exact rm23n l Z a0 hw ws r0 p1 h0 n0 Z0 f1
  · exact rm23a l Z a0 hw ws r0 p1 fa n F h0 n0 Z0 f1 a1 hp
theorem d24_0 : oQ oD26 0 (.aload_n 0) 1 := by decide +kernel
theorem d24_1 : oQ oD26 1 (.getfield 51) 3 := by decide +kernel
theorem d24_4 : oQ oD26 4 (.ifnonnull 7) 3 := by decide +kernel
theorem d24_7 : oQ oD26 7 (.iconst 0) 1 := by decide +kernel
theorem d24_8 : oQ oD26 8 (.goto 9) 3 := by decide +kernel
theorem d24_17 : oQ oD26 17 .ireturn 1 := by decide +kernel
theorem pn_24 : plainName oC0 = true := by first | (simp [plainName, overriddenIn]; done) | decide +kernel
theorem ef_24 (m : MethodId) (r0 : Addr) (p1 : Int32) : entryFrame m #[(.ref r0), (.int p1)] 2 = mkF m 0 #[oR r0, oI p1] [] := by first | (simp [entryFrame, mkF, argsToLocals, Value.category]; done) | rfl
def rm24n_room : Room := { frames := 0, cells := 0, slots := 0, locals := 0 }
def Qrm24n (Z : State) (r0 : Addr) (p1 : Int32) (h0 : Heap) (n0 : Nat) (v : Option Value) (h : Heap) (L : List Loc) : Prop := v = some (.int 0) ∧ Fr n0 L ∧ h = h0
set_option maxRecDepth 65536 in
set_option maxHeartbeats 40000000 in
theorem rm24n (l : Launch) (Z : State) (a0 : Array Value) (hw : oH Z a0) (ws : List Jvm.Cond) (r0 : Addr) (p1 : Int32) (h0 : Heap) (n0 : Nat) (Z0 : n0 ≤ h0.size) (F_end_r0_0 : Fld Z h0 r0 oC0 "end" "[I" .null) :
    MetFree l oM26 (head1 (Jvm.Cond.code oM26 prog_18_method_4_code 2 (some .int) :: ws) rm24n_room) (fun a U => a = #[(.ref r0), (.int p1)] ∧ Z.Warmed39 U.vm ∧ U.heap = h0) (fun _ _ _ _ _ => True) (fun _ U o U' => ∃ v L, o = .returned v ∧ Qrm24n Z r0 p1 h0 n0 v U'.heap L ∧ FrameEnd U o U' L rm24n_room.cells rm24n_room.slots) := by
 refine MetFree.of_bodySF (plainFor_of_name pn_24) hisR ?_
 intro p e s m args below meth c s₁ Bd hml0 hP hK
 obtain ⟨rfl, hZ, hh⟩ := hP
 have hx := Bd.exec
 have hby := Bd.bytes
 have hml : c.maxLocals = 2 := hml0
 have hown : s.vm.findClass oC0 = some m.cls := findClass_of_methodNamed Bd.named
 have hnm := (name_of_methodNamed Bd.named Bd.method).1
 have hlk : meth.locks = false := BodyLoose.notSynchronized Bd
 have X0 : Stand p l e rm24n_room s m #[(.ref r0), (.int p1)] below meth c s₁ [] 0 0 := Stand.of_body Bd
 have e0 : s₁.heap = h0 := by rw [← hh, Bd.state]; rfl
 have N0 := Fr.nil n0
 show own_Fin p.tables e below s (Qrm24n Z r0 p1 h0 n0) rm24n_room.cells rm24n_room.slots (s₁.setTop (entryFrame m #[(.ref r0), (.int p1)] 2))
 rw [ef_24]
 show oF (s₁.setTop (mkF m 0 #[oR r0, oI p1] []))
 refine own_go (fun _ k => XS.aloadN X0.here hx rfl (hb hby d24_0) rfl rfl k) ?_
 obtain ⟨T1, X1, e1, st1⟩ := getF X0 hx hZ hown (host := "") (Or.inl (oW hw 123 rfl)) Via.refl e0 F_end_r0_0 (g := (mkF m 1 #[oR r0, oI p1] [(.ref r0)])) rfl rfl (hb hby d24_1)
 refine own_go (fun tg k => st1 tg k) ?_
 refine own_go (fun _ k => XS.ifnonnullNo X1.here hx rfl (hb hby d24_4) rfl (XS.iconst X1.here hx rfl (hb hby d24_7) (XS.goto X1.here hx rfl (pc0 := 8) (pc' := 17) rfl (hb hby d24_8) (by decide) (by decide) k))) ?_
 refine own_ret X1 hx hlk Bd.returns rfl (Or.inl ⟨rfl, by simp, _, rfl⟩) (hb hby d24_17) (Nat.le_of_ble_eq_true rfl) (Nat.le_of_ble_eq_true rfl) ?_
 refine ⟨?_, N0, e1⟩
 · rfl
theorem d24_11 : oQ oD26 11 (.aload_n 0) 1 := by decide +kernel
theorem d24_12 : oQ oD26 12 (.getfield 51) 3 := by decide +kernel
theorem d24_15 : oQ oD26 15 (.iload_n 1) 1 := by decide +kernel
theorem d24_16 : oQ oD26 16 .iaload 1 := by decide +kernel
def Qrm24a (Z : State) (r0 : Addr) (p1 : Int32) (fa : Addr) (n : Int32) (f : Nat → Int32) (h0 : Heap) (n0 : Nat) (v : Option Value) (h : Heap) (L : List Loc) : Prop := v = some (.int (f p1.toNatClampNeg)) ∧ Fr n0 L ∧ h = h0
set_option maxRecDepth 65536 in
set_option maxHeartbeats 40000000 in
theorem rm24a (l : Launch) (Z : State) (a0 : Array Value) (hw : oH Z a0) (ws : List Jvm.Cond) (r0 : Addr) (p1 : Int32) (fa : Addr) (n : Int32) (f : Nat → Int32) (h0 : Heap) (n0 : Nat) (Z0 : n0 ≤ h0.size) (F_end_r0_0 : Fld Z h0 r0 oC0 "end" "[I" (.ref fa)) (A_fa_0 : own_Arf Z h0 fa .int n (fun i => .int (f i))) (hp : ¬ p1 < 0 ∧ p1 < n) :
    MetFree l oM26 (head1 (Jvm.Cond.code oM26 prog_18_method_4_code 2 (some .int) :: ws) rm24n_room) (fun a U => a = #[(.ref r0), (.int p1)] ∧ Z.Warmed39 U.vm ∧ U.heap = h0) (fun _ _ _ _ _ => True) (fun _ U o U' => ∃ v L, o = .returned v ∧ Qrm24a Z r0 p1 fa n f h0 n0 v U'.heap L ∧ FrameEnd U o U' L rm24n_room.cells rm24n_room.slots) := by
 refine MetFree.of_bodySF (plainFor_of_name pn_24) hisR ?_
 intro p e s m args below meth c s₁ Bd hml0 hP hK
 obtain ⟨rfl, hZ, hh⟩ := hP
 have hx := Bd.exec
 have hby := Bd.bytes
 have hml : c.maxLocals = 2 := hml0
 have hown : s.vm.findClass oC0 = some m.cls := findClass_of_methodNamed Bd.named
 have hnm := (name_of_methodNamed Bd.named Bd.method).1
 have hlk : meth.locks = false := BodyLoose.notSynchronized Bd
 have X0 : Stand p l e rm24n_room s m #[(.ref r0), (.int p1)] below meth c s₁ [] 0 0 := Stand.of_body Bd
 have e0 : s₁.heap = h0 := by rw [← hh, Bd.state]; rfl
 have N0 := Fr.nil n0
 show own_Fin p.tables e below s (Qrm24a Z r0 p1 fa n f h0 n0) rm24n_room.cells rm24n_room.slots (s₁.setTop (entryFrame m #[(.ref r0), (.int p1)] 2))
 rw [ef_24]
 show oF (s₁.setTop (mkF m 0 #[oR r0, oI p1] []))
 refine own_go (fun _ k => XS.aloadN X0.here hx rfl (hb hby d24_0) rfl rfl k) ?_
 obtain ⟨T1, X1, e1, st1⟩ := getF X0 hx hZ hown (host := "") (Or.inl (oW hw 123 rfl)) Via.refl e0 F_end_r0_0 (g := (mkF m 1 #[oR r0, oI p1] [(.ref r0)])) rfl rfl (hb hby d24_1)
 refine own_go (fun tg k => st1 tg k) ?_
 refine own_go (fun _ k => XS.ifnonnullYes X1.here hx rfl (pc0 := 4) (pc' := 11) rfl (hb hby d24_4) rfl (by decide) (by decide) (XS.aloadN X1.here hx rfl (hb hby d24_11) rfl rfl k)) ?_
 obtain ⟨T2, X2, e2, st2⟩ := getF X1 hx hZ hown (host := "") (Or.inl (oW hw 123 rfl)) Via.refl e1 F_end_r0_0 (g := (mkF m 12 #[oR r0, oI p1] [(.ref r0)])) rfl rfl (hb hby d24_12)
 refine own_go (fun tg k => st2 tg k) ?_
 refine own_go (fun _ k => XS.iloadN X2.here hx rfl (hb hby d24_15) rfl k) ?_
 refine own_go (fun tg k => own_iaload X2 hx hZ e2 A_fa_0 (j := p1) hp (x := (f p1.toNatClampNeg)) rfl (g := (mkF m 16 #[oR r0, oI p1] [(.int p1), (.ref fa)])) rfl rfl (hb hby d24_16) tg k) ?_
 show oF (T2.setTop (mkF m 17 #[oR r0, oI p1] [(.int (f p1.toNatClampNeg))]))
 refine own_ret X2 hx hlk Bd.returns rfl (Or.inl ⟨rfl, by simp, _, rfl⟩) (hb hby d24_17) (Nat.le_of_ble_eq_true rfl) (Nat.le_of_ble_eq_true rfl) ?_
 refine ⟨?_, N0, e2⟩
 · rfl
def Qrm24H (Z : State) (r0 : Addr) (p1 : Int32) (n : Int32) (F : Nat → Int32) (E : Nat → Int32) (h0 : Heap) (n0 : Nat) (v : Option Value) (h : Heap) (L : List Loc) : Prop := v = some (.int (E p1.toNatClampNeg)) ∧ Fr n0 L ∧ h = h0
theorem rm24H (l : Launch) (Z : State) (a0 : Array Value) (hw : oH Z a0) (ws : List Jvm.Cond) (r0 : Addr) (p1 n : Int32) (F E : Nat → Int32) (h0 : Heap) (n0 : Nat) (Z0 : n0 ≤ h0.size) (H : own_AMr Z h0 n0 r0 n F E) (hp : own_in p1 n) :
    MetFree l oM26 (head1 (Jvm.Cond.code oM26 prog_18_method_4_code 2 (some .int) :: ws) rm24n_room) (fun a U => a = #[(.ref r0), (.int p1)] ∧ Z.Warmed39 U.vm ∧ U.heap = h0) (fun _ _ _ _ _ => True) (fun _ U o U' => ∃ v L, o = .returned v ∧ (Qrm24H Z r0 p1 n F E h0 n0 v U'.heap L) ∧ FrameEnd U o U' L rm24n_room.cells rm24n_room.slots) := by
  obtain ⟨-, ⟨⟨f1, f2⟩, rfl, rfl⟩ | ⟨fa, ea, ⟨f1, f2⟩, a1, a2⟩⟩ := H
  · exact rm24n l Z a0 hw ws r0 p1 h0 n0 Z0 f2
  · exact rm24a l Z a0 hw ws r0 p1 ea n E h0 n0 Z0 f2 a2 hp
theorem own_sn840 {Z : State} {a0 : Array Value} (hw : oH Z a0) : oO Z oC0 "senderKind" oC11 ≠ oO Z oC0 "receivers" "I" := slot_ne (Or.inr (oW hw 21 rfl)) (Or.inr (oW hw 19 rfl)) (by decide) (t := (.object oC12)) (t' := .int) (by decide) (by decide)
theorem own_sn841 {Z : State} {a0 : Array Value} (hw : oH Z a0) : oO Z oC0 "outboxes" oC4 ≠ oO Z oC0 "receivers" "I" := slot_ne (Or.inr (oW hw 25 rfl)) (Or.inr (oW hw 19 rfl)) (by decide) (t := (.array (.object oC2))) (t' := .int) (by decide) (by decide)
theorem own_sn842 {Z : State} {a0 : Array Value} (hw : oH Z a0) : oO Z oC0 "recipients" oC6 ≠ oO Z oC0 "receivers" "I" := slot_ne (Or.inr (oW hw 58 rfl)) (Or.inr (oW hw 19 rfl)) (by decide) (t := (.object oC1)) (t' := .int) (by decide) (by decide)
theorem own_sn843 {Z : State} {a0 : Array Value} (hw : oH Z a0) : oO Z oC0 "first" "[I" ≠ oO Z oC0 "receivers" "I" := slot_ne (Or.inl (oW hw 122 rfl)) (Or.inr (oW hw 19 rfl)) (by decide) (t := (.array .int)) (t' := .int) (by decide) (by decide)
theorem own_sn844 {Z : State} {a0 : Array Value} (hw : oH Z a0) : oO Z oC0 "end" "[I" ≠ oO Z oC0 "receivers" "I" := slot_ne (Or.inl (oW hw 124 rfl)) (Or.inr (oW hw 19 rfl)) (by decide) (t := (.array .int)) (t' := .int) (by decide) (by decide)
theorem own_sn845 {Z : State} {a0 : Array Value} (hw : oH Z a0) : oO Z oC0 "senders" "[I" ≠ oO Z oC0 "receivers" "I" := slot_ne (Or.inl (oW hw 118 rfl)) (Or.inr (oW hw 19 rfl)) (by decide) (t := (.array .int)) (t' := .int) (by decide) (by decide)
theorem own_sn846 {Z : State} {a0 : Array Value} (hw : oH Z a0) : oO Z oC0 "messages" "[J" ≠ oO Z oC0 "receivers" "I" := slot_ne (Or.inl (oW hw 120 rfl)) (Or.inr (oW hw 19 rfl)) (by decide) (t := (.array .long)) (t' := .int) (by decide) (by decide)
theorem own_sn847 {Z : State} {a0 : Array Value} (hw : oH Z a0) : oO Z oC0 "delivered" "I" ≠ oO Z oC0 "receivers" "I" := slot_ne (Or.inl (oW hw 116 rfl)) (Or.inr (oW hw 19 rfl)) (by decide) (t := .int) (t' := .int) (by decide) (by decide)
theorem own_sn848 {Z : State} {a0 : Array Value} (hw : oH Z a0) : oO Z oC0 "receivers" "I" ≠ oO Z oC0 "senderKind" oC11 := slot_ne (Or.inr (oW hw 19 rfl)) (Or.inr (oW hw 21 rfl)) (by decide) (t := .int) (t' := (.object oC12)) (by decide) (by decide)
theorem own_sn849 {Z : State} {a0 : Array Value} (hw : oH Z a0) : oO Z oC0 "outboxes" oC4 ≠ oO Z oC0 "senderKind" oC11 := slot_ne (Or.inr (oW hw 25 rfl)) (Or.inr (oW hw 21 rfl)) (by decide) (t := (.array (.object oC2))) (t' := (.object oC12)) (by decide) (by decide)
theorem own_sn850 {Z : State} {a0 : Array Value} (hw : oH Z a0) : oO Z oC0 "recipients" oC6 ≠ oO Z oC0 "senderKind" oC11 := slot_ne (Or.inr (oW hw 58 rfl)) (Or.inr (oW hw 21 rfl)) (by decide) (t := (.object oC1)) (t' := (.object oC12)) (by decide) (by decide)
theorem own_sn851 {Z : State} {a0 : Array Value} (hw : oH Z a0) : oO Z oC0 "first" "[I" ≠ oO Z oC0 "senderKind" oC11 := slot_ne (Or.inl (oW hw 122 rfl)) (Or.inr (oW hw 21 rfl)) (by decide) (t := (.array .int)) (t' := (.object oC12)) (by decide) (by decide)
theorem own_sn852 {Z : State} {a0 : Array Value} (hw : oH Z a0) : oO Z oC0 "end" "[I" ≠ oO Z oC0 "senderKind" oC11 := slot_ne (Or.inl (oW hw 124 rfl)) (Or.inr (oW hw 21 rfl)) (by decide) (t := (.array .int)) (t' := (.object oC12)) (by decide) (by decide)
theorem own_sn853 {Z : State} {a0 : Array Value} (hw : oH Z a0) : oO Z oC0 "senders" "[I" ≠ oO Z oC0 "senderKind" oC11 := slot_ne (Or.inl (oW hw 118 rfl)) (Or.inr (oW hw 21 rfl)) (by decide) (t := (.array .int)) (t' := (.object oC12)) (by decide) (by decide)
theorem own_sn854 {Z : State} {a0 : Array Value} (hw : oH Z a0) : oO Z oC0 "messages" "[J" ≠ oO Z oC0 "senderKind" oC11 := slot_ne (Or.inl (oW hw 120 rfl)) (Or.inr (oW hw 21 rfl)) (by decide) (t := (.array .long)) (t' := (.object oC12)) (by decide) (by decide)
theorem own_sn855 {Z : State} {a0 : Array Value} (hw : oH Z a0) : oO Z oC0 "delivered" "I" ≠ oO Z oC0 "senderKind" oC11 := slot_ne (Or.inl (oW hw 116 rfl)) (Or.inr (oW hw 21 rfl)) (by decide) (t := .int) (t' := (.object oC12)) (by decide) (by decide)
theorem own_sn856 {Z : State} {a0 : Array Value} (hw : oH Z a0) : oO Z oC0 "receivers" "I" ≠ oO Z oC0 "outboxes" oC4 := slot_ne (Or.inr (oW hw 19 rfl)) (Or.inr (oW hw 25 rfl)) (by decide) (t := .int) (t' := (.array (.object oC2))) (by decide) (by decide)
theorem own_sn857 {Z : State} {a0 : Array Value} (hw : oH Z a0) : oO Z oC0 "senderKind" oC11 ≠ oO Z oC0 "outboxes" oC4 := slot_ne (Or.inr (oW hw 21 rfl)) (Or.inr (oW hw 25 rfl)) (by decide) (t := (.object oC12)) (t' := (.array (.object oC2))) (by decide) (by decide)
theorem own_sn858 {Z : State} {a0 : Array Value} (hw : oH Z a0) : oO Z oC0 "recipients" oC6 ≠ oO Z oC0 "outboxes" oC4 := slot_ne (Or.inr (oW hw 58 rfl)) (Or.inr (oW hw 25 rfl)) (by decide) (t := (.object oC1)) (t' := (.array (.object oC2))) (by decide) (by decide)
theorem own_sn859 {Z : State} {a0 : Array Value} (hw : oH Z a0) : oO Z oC0 "first" "[I" ≠ oO Z oC0 "outboxes" oC4 := slot_ne (Or.inl (oW hw 122 rfl)) (Or.inr (oW hw 25 rfl)) (by decide) (t := (.array .int)) (t' := (.array (.object oC2))) (by decide) (by decide)
theorem own_sn860 {Z : State} {a0 : Array Value} (hw : oH Z a0) : oO Z oC0 "end" "[I" ≠ oO Z oC0 "outboxes" oC4 := slot_ne (Or.inl (oW hw 124 rfl)) (Or.inr (oW hw 25 rfl)) (by decide) (t := (.array .int)) (t' := (.array (.object oC2))) (by decide) (by decide)
theorem own_sn861 {Z : State} {a0 : Array Value} (hw : oH Z a0) : oO Z oC0 "senders" "[I" ≠ oO Z oC0 "outboxes" oC4 := slot_ne (Or.inl (oW hw 118 rfl)) (Or.inr (oW hw 25 rfl)) (by decide) (t := (.array .int)) (t' := (.array (.object oC2))) (by decide) (by decide)
theorem own_sn862 {Z : State} {a0 : Array Value} (hw : oH Z a0) : oO Z oC0 "messages" "[J" ≠ oO Z oC0 "outboxes" oC4 := slot_ne (Or.inl (oW hw 120 rfl)) (Or.inr (oW hw 25 rfl)) (by decide) (t := (.array .long)) (t' := (.array (.object oC2))) (by decide) (by decide)
theorem own_sn863 {Z : State} {a0 : Array Value} (hw : oH Z a0) : oO Z oC0 "delivered" "I" ≠ oO Z oC0 "outboxes" oC4 := slot_ne (Or.inl (oW hw 116 rfl)) (Or.inr (oW hw 25 rfl)) (by decide) (t := .int) (t' := (.array (.object oC2))) (by decide) (by decide)
theorem own_sn864 {Z : State} {a0 : Array Value} (hw : oH Z a0) : oO Z oC0 "receivers" "I" ≠ oO Z oC0 "recipients" oC6 := slot_ne (Or.inr (oW hw 19 rfl)) (Or.inr (oW hw 58 rfl)) (by decide) (t := .int) (t' := (.object oC1)) (by decide) (by decide)
theorem own_sn865 {Z : State} {a0 : Array Value} (hw : oH Z a0) : oO Z oC0 "senderKind" oC11 ≠ oO Z oC0 "recipients" oC6 := slot_ne (Or.inr (oW hw 21 rfl)) (Or.inr (oW hw 58 rfl)) (by decide) (t := (.object oC12)) (t' := (.object oC1)) (by decide) (by decide)
theorem own_sn866 {Z : State} {a0 : Array Value} (hw : oH Z a0) : oO Z oC0 "outboxes" oC4 ≠ oO Z oC0 "recipients" oC6 := slot_ne (Or.inr (oW hw 25 rfl)) (Or.inr (oW hw 58 rfl)) (by decide) (t := (.array (.object oC2))) (t' := (.object oC1)) (by decide) (by decide)
theorem own_sn867 {Z : State} {a0 : Array Value} (hw : oH Z a0) : oO Z oC0 "first" "[I" ≠ oO Z oC0 "recipients" oC6 := slot_ne (Or.inl (oW hw 122 rfl)) (Or.inr (oW hw 58 rfl)) (by decide) (t := (.array .int)) (t' := (.object oC1)) (by decide) (by decide)
theorem own_sn868 {Z : State} {a0 : Array Value} (hw : oH Z a0) : oO Z oC0 "end" "[I" ≠ oO Z oC0 "recipients" oC6 := slot_ne (Or.inl (oW hw 124 rfl)) (Or.inr (oW hw 58 rfl)) (by decide) (t := (.array .int)) (t' := (.object oC1)) (by decide) (by decide)
theorem own_sn869 {Z : State} {a0 : Array Value} (hw : oH Z a0) : oO Z oC0 "senders" "[I" ≠ oO Z oC0 "recipients" oC6 := slot_ne (Or.inl (oW hw 118 rfl)) (Or.inr (oW hw 58 rfl)) (by decide) (t := (.array .int)) (t' := (.object oC1)) (by decide) (by decide)
theorem own_sn870 {Z : State} {a0 : Array Value} (hw : oH Z a0) : oO Z oC0 "messages" "[J" ≠ oO Z oC0 "recipients" oC6 := slot_ne (Or.inl (oW hw 120 rfl)) (Or.inr (oW hw 58 rfl)) (by decide) (t := (.array .long)) (t' := (.object oC1)) (by decide) (by decide)
theorem own_sn871 {Z : State} {a0 : Array Value} (hw : oH Z a0) : oO Z oC0 "delivered" "I" ≠ oO Z oC0 "recipients" oC6 := slot_ne (Or.inl (oW hw 116 rfl)) (Or.inr (oW hw 58 rfl)) (by decide) (t := .int) (t' := (.object oC1)) (by decide) (by decide)
theorem d1_0 : oQ oD27 0 (.aload_n 0) 1 := by decide +kernel
theorem d1_1 : oQ oD27 1 (.invokespecial 3) 3 := by decide +kernel
theorem d1_4 : oQ oD27 4 (.aload_n 0) 1 := by decide +kernel
theorem d1_5 : oQ oD27 5 (.iload_n 1) 1 := by decide +kernel
theorem d1_6 : oQ oD27 6 (.putfield 9) 3 := by decide +kernel
theorem d1_9 : oQ oD27 9 (.aload_n 0) 1 := by decide +kernel
theorem d1_10 : oQ oD27 10 (.aload_n 3) 1 := by decide +kernel
theorem d1_11 : oQ oD27 11 (.putfield 15) 3 := by decide +kernel
theorem d1_14 : oQ oD27 14 (.aload_n 0) 1 := by decide +kernel
theorem d1_15 : oQ oD27 15 (.iload_n 2) 1 := by decide +kernel
theorem d1_16 : oQ oD27 16 (.anewarray 19) 3 := by decide +kernel
theorem d1_19 : oQ oD27 19 (.putfield 21) 3 := by decide +kernel
theorem d1_22 : oQ oD27 22 (.aload_n 0) 1 := by decide +kernel
theorem d1_23 : oQ oD27 23 (.new 25) 3 := by decide +kernel
theorem d1_26 : oQ oD27 26 .dup 1 := by decide +kernel
theorem d1_27 : oQ oD27 27 (.iload_n 1) 1 := by decide +kernel
theorem d1_28 : oQ oD27 28 (.invokestatic 27) 3 := by decide +kernel
theorem d1_31 : oQ oD27 31 (.invokespecial 33) 3 := by decide +kernel
theorem d1_34 : oQ oD27 34 (.putfield 36) 3 := by decide +kernel
theorem d1_37 : oQ oD27 37 .return_ 1 := by decide +kernel
theorem pn_1 : plainName oC0 = true := by first | (simp [plainName, overriddenIn]; done) | decide +kernel
theorem ef_1_2Int32 (m : MethodId) (r0 : Addr) (p1 : Int32) (r3 : Addr) : entryFrame m #[(.ref r0), (.int p1), (.int 2), (.ref r3)] 4 = mkF m 0 #[oR r0, oI p1, oI 2, oR r3] [] := by first | (simp [entryFrame, mkF, argsToLocals, Value.category]; done) | rfl
def rm1_room : Room := { frames := 3, cells := 6, slots := 41, locals := 41 }
def Qrm1 (Z : State) (r0 : Addr) (p1 : Int32) (r3 : Addr) (h0 : Heap) (n0 : Nat) (v : Option Value) (h : Heap) (L : List Loc) : Prop := ∃ ob : Addr, ∃ rv : Addr, ∃ il : Addr, ∃ ix : Addr, ∃ wd : Addr, ∃ hd : Addr, v = none ∧ Fr n0 L ∧ h0.size ≤ h.size ∧ Exa Z h r0 oC0 ∧ Fld Z h r0 oC0 "receivers" "I" (.int p1) ∧ Fld Z h r0 oC0 "outboxes" oC4 (.ref ob) ∧ Fld Z h r0 oC0 "recipients" oC6 (.ref rv) ∧ Fld Z h r0 oC0 "first" "[I" .null ∧ Fld Z h r0 oC0 "end" "[I" .null ∧ Fld Z h r0 oC0 "senders" "[I" .null ∧ Fld Z h r0 oC0 "messages" "[J" .null ∧ Fld Z h r0 oC0 "delivered" "I" (.int 0) ∧ own_Oa Z h ob oC2 .null .null ∧ Exa Z h rv oC1 ∧ Fld Z h rv oC1 "words" "[J" (.ref wd) ∧ Fld Z h rv oC1 "held" "[Z" (.ref hd) ∧ Fld Z h rv oC1 "blocks" oC5 (.ref il) ∧ Fld Z h rv oC1 "sorted" "Z" (.int 1) ∧ Exa Z h il oC3 ∧ Fld Z h il oC3 "indices" "[I" (.ref ix) ∧ Fld Z h il oC3 "size" "I" (.int 0) ∧ own_Arf Z h ix .int (16 : Int32) (fun i => .int ((fun _ => (0 : Int32)) i)) ∧ own_Arf Z h wd .long (16 : Int32) (fun i => .long ((own_w0 (0 : Int64)) i)) ∧ own_Arf Z h hd .boolean (1 : Int32) (fun i => .int ((fun _ => (0 : Int32)) i)) ∧ n0 ≤ ob ∧ n0 ≤ rv ∧ n0 ≤ il ∧ n0 ≤ ix ∧ n0 ≤ wd ∧ n0 ≤ hd
set_option maxRecDepth 65536 in
set_option maxHeartbeats 40000000 in
theorem rm1 (l : Launch) (Z : State) (a0 : Array Value) (hw : oH Z a0) (ws : List Jvm.Cond) (r0 : Addr) (p1 : Int32) (r3 : Addr) (h0 : Heap) (n0 : Nat) (Z0 : n0 ≤ h0.size) (E_r0_0 : Exa Z h0 r0 oC0) (F_receivers_r0_0 : Fld Z h0 r0 oC0 "receivers" "I" (.int 0)) (F_senderKind_r0_0 : Fld Z h0 r0 oC0 "senderKind" oC11 .null) (F_outboxes_r0_0 : Fld Z h0 r0 oC0 "outboxes" oC4 .null) (F_recipients_r0_0 : Fld Z h0 r0 oC0 "recipients" oC6 .null) (F_first_r0_0 : Fld Z h0 r0 oC0 "first" "[I" .null) (F_end_r0_0 : Fld Z h0 r0 oC0 "end" "[I" .null) (F_senders_r0_0 : Fld Z h0 r0 oC0 "senders" "[I" .null) (F_messages_r0_0 : Fld Z h0 r0 oC0 "messages" "[J" .null) (F_delivered_r0_0 : Fld Z h0 r0 oC0 "delivered" "I" (.int 0)) (ge_r0 : n0 ≤ r0) (hn : own_n14 p1) :
    MetFree l oM27 (head1 (Jvm.Cond.code oM27 prog_18_method_1_code 4 none :: ws) rm1_room) (fun a U => a = #[(.ref r0), (.int p1), (.int 2), (.ref r3)] ∧ Z.Warmed39 U.vm ∧ U.heap = h0) (fun _ _ _ _ _ => True) (fun _ U o U' => ∃ v L, o = .returned v ∧ Qrm1 Z r0 p1 r3 h0 n0 v U'.heap L ∧ FrameEnd U o U' L rm1_room.cells rm1_room.slots) := by
 refine MetFree.of_bodySF (plainFor_of_name pn_1) hisR ?_
 intro p e s m args below meth c s₁ Bd hml0 hP hK
 obtain ⟨rfl, hZ, hh⟩ := hP
 have hx := Bd.exec
 have hby := Bd.bytes
 have hml : c.maxLocals = 4 := hml0
 have hown : s.vm.findClass oC0 = some m.cls := findClass_of_methodNamed Bd.named
 have hnm := (name_of_methodNamed Bd.named Bd.method).1
 have hlk : meth.locks = false := BodyLoose.notSynchronized Bd
 have X0 : Stand p l e rm1_room s m #[(.ref r0), (.int p1), (.int 2), (.ref r3)] below meth c s₁ [] 0 0 := Stand.of_body Bd
 have e0 : s₁.heap = h0 := by rw [← hh, Bd.state]; rfl
 have N0 := Fr.nil n0
 show own_Fin p.tables e below s (Qrm1 Z r0 p1 r3 h0 n0) rm1_room.cells rm1_room.slots (s₁.setTop (entryFrame m #[(.ref r0), (.int p1), (.int 2), (.ref r3)] 4))
 rw [ef_1_2Int32]
 show oF (s₁.setTop (mkF m 0 #[oR r0, oI p1, oI 2, oR r3] []))
 refine own_go (fun _ k => XS.aloadN X0.here hx rfl (hb hby d1_0) rfl rfl k) ?_
 obtain ⟨T1, X1, e1, st1⟩ := initO X0 hx hZ hown (oW hw 15 rfl) (oW hw 16 rfl) (oW hw 17 rfl) e0 (g := (mkF m 1 #[oR r0, oI p1, oI 2, oR r3] [(.ref r0)])) rfl (by rw [hml]; rfl) rfl (hb hby d1_1) (by decide) (W := 0) (by show 2 * 0 + _ ≤ _; exact Nat.le_of_eq rfl) (by decide)
 refine own_go (fun tg k => st1 tg k) ?_
 show oF (T1.setTop (mkF m 4 #[oR r0, oI p1, oI 2, oR r3] []))
 refine own_go (fun _ k => XS.aloadN X1.here hx rfl (hb hby d1_4) rfl rfl (XS.iloadN X1.here hx rfl (hb hby d1_5) rfl k)) ?_
 obtain ⟨T2, h2, X2, e2, W2, st2⟩ := putF X1 hx hZ hown (host := "") (Or.inl (oW hw 18 rfl)) Via.refl e1 F_receivers_r0_0 E_r0_0 (Or.inr ⟨(oW hw 19 rfl), rfl, hnm⟩) (oW hw 2 rfl) (ty := .int) (by decide) rfl rfl (g := (mkF m 6 #[oR r0, oI p1, oI 2, oR r3] [(.int p1), (.ref r0)])) rfl rfl (hb hby d1_6)
 have E_r0_2 := E_r0_0.wr W2
 have F_senderKind_r0_2 := F_senderKind_r0_0.other W2 (Or.inr (own_sn840 hw))
 have F_outboxes_r0_2 := F_outboxes_r0_0.other W2 (Or.inr (own_sn841 hw))
 have F_recipients_r0_2 := F_recipients_r0_0.other W2 (Or.inr (own_sn842 hw))
 have F_first_r0_2 := F_first_r0_0.other W2 (Or.inr (own_sn843 hw))
 have F_end_r0_2 := F_end_r0_0.other W2 (Or.inr (own_sn844 hw))
 have F_senders_r0_2 := F_senders_r0_0.other W2 (Or.inr (own_sn845 hw))
 have F_messages_r0_2 := F_messages_r0_0.other W2 (Or.inr (own_sn846 hw))
 have F_delivered_r0_2 := F_delivered_r0_0.other W2 (Or.inr (own_sn847 hw))
 have N2 := Fr.snoc X2 N0 ge_r0
 have Z2 : n0 ≤ h2.size := Nat.le_trans Z0 (Keep.of_wr W2).1
 have F_receivers_r0_2 := F_receivers_r0_0.same W2
 refine own_go (fun tg k => st2 tg k) ?_
 refine own_go (fun _ k => XS.aloadN X2.here hx rfl (hb hby d1_9) rfl rfl (XS.aloadN X2.here hx rfl (hb hby d1_10) rfl rfl k)) ?_
 obtain ⟨T3, h3, X3, e3, W3, st3⟩ := putF X2 hx hZ hown (host := "") (Or.inl (oW hw 20 rfl)) Via.refl e2 F_senderKind_r0_2 E_r0_2 (Or.inr ⟨(oW hw 21 rfl), rfl, hnm⟩) (oW hw 2 rfl) (ty := (.object oC12)) (by decide) rfl rfl (g := (mkF m 11 #[oR r0, oI p1, oI 2, oR r3] [(.ref r3), (.ref r0)])) rfl rfl (hb hby d1_11)
 have E_r0_3 := E_r0_2.wr W3
 have F_receivers_r0_3 := F_receivers_r0_2.other W3 (Or.inr (own_sn848 hw))
 have F_outboxes_r0_3 := F_outboxes_r0_2.other W3 (Or.inr (own_sn849 hw))
 have F_recipients_r0_3 := F_recipients_r0_2.other W3 (Or.inr (own_sn850 hw))
 have F_first_r0_3 := F_first_r0_2.other W3 (Or.inr (own_sn851 hw))
 have F_end_r0_3 := F_end_r0_2.other W3 (Or.inr (own_sn852 hw))
 have F_senders_r0_3 := F_senders_r0_2.other W3 (Or.inr (own_sn853 hw))
 have F_messages_r0_3 := F_messages_r0_2.other W3 (Or.inr (own_sn854 hw))
 have F_delivered_r0_3 := F_delivered_r0_2.other W3 (Or.inr (own_sn855 hw))
 have N3 := Fr.snoc X3 N2 ge_r0
 have Z3 : n0 ≤ h3.size := Nat.le_trans Z2 (Keep.of_wr W3).1
 have F_senderKind_r0_3 := F_senderKind_r0_2.same W3
 refine own_go (fun tg k => st3 tg k) ?_
 refine own_go (fun _ k => XS.aloadN X3.here hx rfl (hb hby d1_14) rfl rfl (XS.iloadN X3.here hx rfl (hb hby d1_15) rfl k)) ?_
 obtain ⟨T4, h4, k4, X4, e4, E4, A4, O4, st4⟩ := newR X3 hx hZ hown (oW hw 22 rfl) (oW hw 23 rfl) e3 (g := (mkF m 16 #[oR r0, oI p1, oI 2, oR r3] [(.int 2), (.ref r0)])) rfl (hb hby d1_16) rfl (by decide) (cap := 2) (by decide) (by decide) (by decide) (by decide)
 obtain ⟨b4, g4⟩ : ∃ z, z = h3.size := ⟨_, rfl⟩
 rw [← g4] at A4 st4
 have ne_r0_b4 : r0 ≠ b4 := Nat.ne_of_lt (Nat.lt_of_lt_of_le E_r0_3.lt (Nat.le_of_eq g4.symm))
 have ge_b4 : n0 ≤ b4 := Nat.le_trans Z3 (Nat.le_of_eq g4.symm)
 have E_r0_4 := E_r0_3.ext E4
 have F_receivers_r0_4 := F_receivers_r0_3.ext E4
 have F_senderKind_r0_4 := F_senderKind_r0_3.ext E4
 have F_outboxes_r0_4 := F_outboxes_r0_3.ext E4
 have F_recipients_r0_4 := F_recipients_r0_3.ext E4
 have F_first_r0_4 := F_first_r0_3.ext E4
 have F_end_r0_4 := F_end_r0_3.ext E4
 have F_senders_r0_4 := F_senders_r0_3.ext E4
 have F_messages_r0_4 := F_messages_r0_3.ext E4
 have F_delivered_r0_4 := F_delivered_r0_3.ext E4
 have Z4 : n0 ≤ h4.size := Nat.le_trans Z3 E4.1
 have O_b4_4 := own_Oa.new A4 O4
 refine own_go (fun tg k => st4 tg k) ?_
 obtain ⟨T5, h5, X5, e5, W5, st5⟩ := putF X4 hx hZ hown (host := "") (Or.inl (oW hw 24 rfl)) Via.refl e4 F_outboxes_r0_4 E_r0_4 (Or.inr ⟨(oW hw 25 rfl), rfl, hnm⟩) (oW hw 2 rfl) (ty := (.array (.object oC2))) (by decide) rfl rfl (g := (mkF m 19 #[oR r0, oI p1, oI 2, oR r3] [(.ref b4), (.ref r0)])) rfl rfl (hb hby d1_19)
 have E_r0_5 := E_r0_4.wr W5
 have F_receivers_r0_5 := F_receivers_r0_4.other W5 (Or.inr (own_sn856 hw))
 have F_senderKind_r0_5 := F_senderKind_r0_4.other W5 (Or.inr (own_sn857 hw))
 have F_recipients_r0_5 := F_recipients_r0_4.other W5 (Or.inr (own_sn858 hw))
 have F_first_r0_5 := F_first_r0_4.other W5 (Or.inr (own_sn859 hw))
 have F_end_r0_5 := F_end_r0_4.other W5 (Or.inr (own_sn860 hw))
 have F_senders_r0_5 := F_senders_r0_4.other W5 (Or.inr (own_sn861 hw))
 have F_messages_r0_5 := F_messages_r0_4.other W5 (Or.inr (own_sn862 hw))
 have F_delivered_r0_5 := F_delivered_r0_4.other W5 (Or.inr (own_sn863 hw))
 have O_b4_5 := O_b4_4.other W5 (Ne.symm ne_r0_b4)
 have N5 := Fr.snoc X5 N3 ge_r0
 have Z5 : n0 ≤ h5.size := Nat.le_trans Z4 (Keep.of_wr W5).1
 have F_outboxes_r0_5 := F_outboxes_r0_4.same W5
 refine own_go (fun tg k => st5 tg k) ?_
 refine own_go (fun _ k => XS.aloadN X5.here hx rfl (hb hby d1_22) rfl rfl k) ?_
 obtain ⟨T6, h6, X6, e6, E6, A6, D6, -, st6⟩ := newO X5 hx hZ hown (oW hw 26 rfl) (oW hw 27 rfl) (oW hw 28 rfl) e5 (g := (mkF m 23 #[oR r0, oI p1, oI 2, oR r3] [(.ref r0)])) rfl (hb hby d1_23) (by decide) (by decide)
 obtain ⟨b6, g6⟩ : ∃ z, z = h5.size := ⟨_, rfl⟩
 rw [← g6] at A6 D6 st6
 have ne_r0_b6 : r0 ≠ b6 := Nat.ne_of_lt (Nat.lt_of_lt_of_le E_r0_5.lt (Nat.le_of_eq g6.symm))
 have ne_b4_b6 : b4 ≠ b6 := Nat.ne_of_lt (Nat.lt_of_lt_of_le O_b4_5.lt (Nat.le_of_eq g6.symm))
 have ge_b6 : n0 ≤ b6 := Nat.le_trans Z5 (Nat.le_of_eq g6.symm)
 have E_r0_6 := E_r0_5.ext E6
 have F_receivers_r0_6 := F_receivers_r0_5.ext E6
 have F_senderKind_r0_6 := F_senderKind_r0_5.ext E6
 have F_outboxes_r0_6 := F_outboxes_r0_5.ext E6
 have F_recipients_r0_6 := F_recipients_r0_5.ext E6
 have F_first_r0_6 := F_first_r0_5.ext E6
 have F_end_r0_6 := F_end_r0_5.ext E6
 have F_senders_r0_6 := F_senders_r0_5.ext E6
 have F_messages_r0_6 := F_messages_r0_5.ext E6
 have F_delivered_r0_6 := F_delivered_r0_5.ext E6
 have O_b4_6 := O_b4_5.ext E6
 have Z6 : n0 ≤ h6.size := Nat.le_trans Z5 E6.1
 have E_b6_6 : Exa Z h6 b6 oC1 := A6
 have F_blocks_b6_6 : Fld Z h6 b6 oC1 "blocks" oC5 .null := D6 (Or.inr (oW hw 48 rfl)) (ty := (.object oC3)) (by decide)
 have F_sorted_b6_6 : Fld Z h6 b6 oC1 "sorted" "Z" (.int 0) := D6 (Or.inl (oW hw 50 rfl)) (ty := .boolean) (by decide)
 have F_words_b6_6 : Fld Z h6 b6 oC1 "words" "[J" .null := D6 (Or.inr (oW hw 53 rfl)) (ty := (.array .long)) (by decide)
 have F_held_b6_6 : Fld Z h6 b6 oC1 "held" "[Z" .null := D6 (Or.inr (oW hw 56 rfl)) (ty := (.array .boolean)) (by decide)
 refine own_go (fun tg k => st6 tg k) ?_
 refine own_go (fun _ k => XS.dup X6.here hx rfl (hb hby d1_26) rfl rfl (XS.iloadN X6.here hx rfl (hb hby d1_27) rfl k)) ?_
 obtain ⟨_, _, ⟨T7, L7, k7, n7⟩, -, X7, ⟨Lc7, hQ7, l7, y7, z7⟩, st7⟩ := Jvm.LawKit.callS X6 hx (y := oM0) hown (mvT hZ (oW hw 29 rfl)) (mvT hZ (oW hw 30 rfl)) (mvT hZ (oW hw 31 rfl)) (mvT hZ (oW hw 32 rfl)) (by decide) (backOf (W := 3) (rm3 l Z a0 hw [] p1 h6 n0 Z6) hZ (oW hw 32 rfl) (oW hw 31 rfl) (by decide) (by decide)) (g := (mkF m 28 #[oR r0, oI p1, oI 2, oR r3] [(.int p1), (.ref b6), (.ref b6), (.ref r0)])) rfl (by rw [hml]; rfl) (argsL := [(.int p1)]) (rest := [(.ref b6), (.ref b6), (.ref r0)]) (lenOf own_pd90 rfl) rfl (by show 2 * 0 + _ ≤ _; exact Nat.le_of_eq rfl) (hb hby d1_28) (fun _ _ => ⟨rfl, e6, (by decide : 2 + 0 ≤ _), (by decide : 6 + 0 ≤ _)⟩)
 dsimp only [Pt.U, Pt.locs, Pt.cells, Pt.slots] at X7 l7 y7 z7 st7 hQ7
 replace y7 : 2 = k7 := y7.symm
 replace z7 : 6 = n7 := z7.symm
 subst y7 z7
 obtain ⟨rfl, N7q, e7⟩ := hQ7
 have N7 : Fr n0 L7 := by rw [l7]; exact Fr.app N5 N7q
 refine own_go (fun tg k => st7 tg k) ?_
 show oF (T7.setTop (mkF m 31 #[oR r0, oI p1, oI 2, oR r3] [(.int (own_f3 p1)), (.ref b6), (.ref b6), (.ref r0)]))
 have hr8 : (own_f3 p1) = (1 : Int32) := (own_bc1 hn)
 rw [hr8]
 show oF (T7.setTop (mkF m 31 #[oR r0, oI p1, oI 2, oR r3] [(.int 1), (.ref b6), (.ref b6), (.ref r0)]))
 obtain ⟨_, _, ⟨T9, L9, k9, n9⟩, -, X9, ⟨Lc9, hQ9, l9, y9, z9⟩, st9⟩ := X7.specialBack hx (y := oM10) rfl hown (mvT hZ (oW hw 33 rfl)) (mvT hZ (oW hw 34 rfl)) (mvT hZ (oW hw 35 rfl)) (by decide) (backOf (W := 2) (rm4 l Z a0 hw [] b6 h6 n0 Z6 E_b6_6 F_words_b6_6 F_held_b6_6 F_blocks_b6_6 F_sorted_b6_6 ge_b6) hZ (oW hw 35 rfl) (oW hw 28 rfl) (by decide) (by decide)) (g := (mkF m 31 #[oR r0, oI p1, oI 2, oR r3] [(.int 1), (.ref b6), (.ref b6), (.ref r0)])) rfl (by rw [hml]; rfl) (Steps.refl _) (a := b6) (argsL := [(.int 1)]) (rest := [(.ref b6), (.ref r0)]) (lenOf own_pd308 rfl) rfl (by show 2 * 0 + _ ≤ _; exact Nat.le_of_eq rfl) (hb hby d1_31) (fun _ _ => ⟨rfl, e7, (by decide : 2 + 4 ≤ _), (by decide : 6 + 35 ≤ _)⟩)
 dsimp only [Pt.U, Pt.locs, Pt.cells, Pt.slots] at X9 l9 y9 z9 st9 hQ9
 replace y9 : 6 = k9 := y9.symm
 replace z9 : 41 = n9 := z9.symm
 subst y9 z9
 obtain ⟨b9bl, b9bi, b9bw, b9bh, rfl, N9q, Kq9, szq_b9bl, szq_b9bi, szq_b9bw, szq_b9bh, E_b6_9, F_words_b6_9, F_held_b6_9, F_blocks_b6_9, F_sorted_b6_9, E_b9bl_9, F_indices_b9bl_9, F_size_b9bl_9, A_b9bi_9, A_b9bw_9, A_b9bh_9⟩ := hQ9
 have N9 : Fr n0 L9 := by rw [l9]; exact Fr.app N7 N9q
 have ne_r0_b9bl : r0 ≠ b9bl := Nat.ne_of_lt (Nat.lt_of_lt_of_le E_r0_6.lt szq_b9bl)
 have ne_b4_b9bl : b4 ≠ b9bl := Nat.ne_of_lt (Nat.lt_of_lt_of_le O_b4_6.lt szq_b9bl)
 have ne_b6_b9bl : b6 ≠ b9bl := Nat.ne_of_lt (Nat.lt_of_lt_of_le E_b6_6.lt szq_b9bl)
 have ge_b9bl : n0 ≤ b9bl := Nat.le_trans Z6 szq_b9bl
 have ne_r0_b9bi : r0 ≠ b9bi := Nat.ne_of_lt (Nat.lt_of_lt_of_le E_r0_6.lt szq_b9bi)
 have ne_b4_b9bi : b4 ≠ b9bi := Nat.ne_of_lt (Nat.lt_of_lt_of_le O_b4_6.lt szq_b9bi)
 have ne_b6_b9bi : b6 ≠ b9bi := Nat.ne_of_lt (Nat.lt_of_lt_of_le E_b6_6.lt szq_b9bi)
 have ge_b9bi : n0 ≤ b9bi := Nat.le_trans Z6 szq_b9bi
 have ne_r0_b9bw : r0 ≠ b9bw := Nat.ne_of_lt (Nat.lt_of_lt_of_le E_r0_6.lt szq_b9bw)
 have ne_b4_b9bw : b4 ≠ b9bw := Nat.ne_of_lt (Nat.lt_of_lt_of_le O_b4_6.lt szq_b9bw)
 have ne_b6_b9bw : b6 ≠ b9bw := Nat.ne_of_lt (Nat.lt_of_lt_of_le E_b6_6.lt szq_b9bw)
 have ge_b9bw : n0 ≤ b9bw := Nat.le_trans Z6 szq_b9bw
 have ne_r0_b9bh : r0 ≠ b9bh := Nat.ne_of_lt (Nat.lt_of_lt_of_le E_r0_6.lt szq_b9bh)
 have ne_b4_b9bh : b4 ≠ b9bh := Nat.ne_of_lt (Nat.lt_of_lt_of_le O_b4_6.lt szq_b9bh)
 have ne_b6_b9bh : b6 ≠ b9bh := Nat.ne_of_lt (Nat.lt_of_lt_of_le E_b6_6.lt szq_b9bh)
 have ge_b9bh : n0 ≤ b9bh := Nat.le_trans Z6 szq_b9bh
 have E_r0_9 := E_r0_6.keep Kq9
 have F_receivers_r0_9 := F_receivers_r0_6.keep Kq9 (ninS ne_r0_b6 nin0)
 have F_senderKind_r0_9 := F_senderKind_r0_6.keep Kq9 (ninS ne_r0_b6 nin0)
 have F_outboxes_r0_9 := F_outboxes_r0_6.keep Kq9 (ninS ne_r0_b6 nin0)
 have F_recipients_r0_9 := F_recipients_r0_6.keep Kq9 (ninS ne_r0_b6 nin0)
 have F_first_r0_9 := F_first_r0_6.keep Kq9 (ninS ne_r0_b6 nin0)
 have F_end_r0_9 := F_end_r0_6.keep Kq9 (ninS ne_r0_b6 nin0)
 have F_senders_r0_9 := F_senders_r0_6.keep Kq9 (ninS ne_r0_b6 nin0)
 have F_messages_r0_9 := F_messages_r0_6.keep Kq9 (ninS ne_r0_b6 nin0)
 have F_delivered_r0_9 := F_delivered_r0_6.keep Kq9 (ninS ne_r0_b6 nin0)
 have O_b4_9 := O_b4_6.keep Kq9 (ninS ne_b4_b6 nin0)
 have Z9 : n0 ≤ T9.heap.size := Nat.le_trans Z6 Kq9.1
 refine own_go (fun tg k => st9.trans k) ?_
 show oF (T9.setTop (mkF m 34 #[oR r0, oI p1, oI 2, oR r3] [(.ref b6), (.ref r0)]))
 obtain ⟨T10, h10, X10, e10, W10, st10⟩ := putF X9 hx hZ hown (host := "") (Or.inl (oW hw 57 rfl)) Via.refl rfl F_recipients_r0_9 E_r0_9 (Or.inr ⟨(oW hw 58 rfl), rfl, hnm⟩) (oW hw 2 rfl) (ty := (.object oC1)) (by decide) rfl rfl (g := (mkF m 34 #[oR r0, oI p1, oI 2, oR r3] [(.ref b6), (.ref r0)])) rfl rfl (hb hby d1_34)
 have E_r0_10 := E_r0_9.wr W10
 have F_receivers_r0_10 := F_receivers_r0_9.other W10 (Or.inr (own_sn864 hw))
 have F_senderKind_r0_10 := F_senderKind_r0_9.other W10 (Or.inr (own_sn865 hw))
 have F_outboxes_r0_10 := F_outboxes_r0_9.other W10 (Or.inr (own_sn866 hw))
 have F_first_r0_10 := F_first_r0_9.other W10 (Or.inr (own_sn867 hw))
 have F_end_r0_10 := F_end_r0_9.other W10 (Or.inr (own_sn868 hw))
 have F_senders_r0_10 := F_senders_r0_9.other W10 (Or.inr (own_sn869 hw))
 have F_messages_r0_10 := F_messages_r0_9.other W10 (Or.inr (own_sn870 hw))
 have F_delivered_r0_10 := F_delivered_r0_9.other W10 (Or.inr (own_sn871 hw))
 have O_b4_10 := O_b4_9.other W10 (Ne.symm ne_r0_b4)
 have E_b6_10 := E_b6_9.wr W10
 have F_blocks_b6_10 := F_blocks_b6_9.other W10 (Or.inl (Ne.symm ne_r0_b6))
 have F_sorted_b6_10 := F_sorted_b6_9.other W10 (Or.inl (Ne.symm ne_r0_b6))
 have F_words_b6_10 := F_words_b6_9.other W10 (Or.inl (Ne.symm ne_r0_b6))
 have F_held_b6_10 := F_held_b6_9.other W10 (Or.inl (Ne.symm ne_r0_b6))
 have E_b9bl_10 := E_b9bl_9.wr W10
 have F_indices_b9bl_10 := F_indices_b9bl_9.other W10 (Or.inl (Ne.symm ne_r0_b9bl))
 have F_size_b9bl_10 := F_size_b9bl_9.other W10 (Or.inl (Ne.symm ne_r0_b9bl))
 have A_b9bi_10 := A_b9bi_9.other W10 (Ne.symm ne_r0_b9bi)
 have A_b9bw_10 := A_b9bw_9.other W10 (Ne.symm ne_r0_b9bw)
 have A_b9bh_10 := A_b9bh_9.other W10 (Ne.symm ne_r0_b9bh)
 have N10 := Fr.snoc X10 N9 ge_r0
 have Z10 : n0 ≤ h10.size := Nat.le_trans Z9 (Keep.of_wr W10).1
 have F_recipients_r0_10 := F_recipients_r0_9.same W10
 refine own_go (fun tg k => st10 tg k) ?_
 refine own_retV X10 hx hlk Bd.returns (hb hby d1_37) (Nat.le_of_ble_eq_true rfl) (Nat.le_of_ble_eq_true rfl) ?_
 rw [e10]
 refine ⟨b4, b6, b9bl, b9bi, b9bw, b9bh, rfl, N10, (by have q : s.heap.size ≤ T10.heap.size := X10.same.2.1; rw [hh, e10] at q; exact q), E_r0_10, ?_, ?_, ?_, ?_, ?_, ?_, ?_, ?_, ?_, E_b6_10, ?_, ?_, ?_, ?_, E_b9bl_10, ?_, ?_, ?_, ?_, ?_, ge_b4, ge_b6, ge_b9bl, ge_b9bi, ge_b9bw, ge_b9bh⟩
 · (exact F_receivers_r0_10)
 · (exact F_outboxes_r0_10)
 · (exact F_recipients_r0_10)
 · (exact F_first_r0_10)
 · (exact F_end_r0_10)
 · (exact F_senders_r0_10)
 · (exact F_messages_r0_10)
 · (exact F_delivered_r0_10)
 · (exact O_b4_10)
 · (exact F_words_b6_10)
 · (exact F_held_b6_10)
 · (exact F_blocks_b6_10)
 · (exact F_sorted_b6_10)
 · (exact F_indices_b9bl_10)
 · (exact F_size_b9bl_10)
 · (exact A_b9bi_10)
 · (exact A_b9bw_10)
 · (exact A_b9bh_10)
theorem d25_0 : oQ oD28 0 (.iload_n 0) 1 := by decide +kernel
theorem d25_1 : oQ oD28 1 (.ifCond .eq 12) 3 := by decide +kernel
theorem d25_4 : oQ oD28 4 (.iload_n 1) 1 := by decide +kernel
theorem d25_5 : oQ oD28 5 (.iload_n 2) 1 := by decide +kernel
theorem d25_6 : oQ oD28 6 (.if_icmp .ne 7) 3 := by decide +kernel
theorem d25_9 : oQ oD28 9 (.iconst 1) 1 := by decide +kernel
theorem d25_10 : oQ oD28 10 (.goto 4) 3 := by decide +kernel
theorem d25_13 : oQ oD28 13 (.iconst 0) 1 := by decide +kernel
theorem d25_14 : oQ oD28 14 .ireturn 1 := by decide +kernel
theorem pn_25 : plainName oC7 = true := by first | (simp [plainName, overriddenIn]; done) | decide +kernel
theorem ef_25 (m : MethodId) (p0 : Int32) (p1 : Int32) (p2 : Int32) : entryFrame m #[(.int p0), (.int p1), (.int p2)] 3 = mkF m 0 #[oI p0, oI p1, oI p2] [] := by first | (simp [entryFrame, mkF, argsToLocals, Value.category]; done) | rfl
def own_rm25_room : Room := { frames := 0, cells := 0, slots := 0, locals := 0 }
def own_f25 (p0 : Int32) (p1 : Int32) (p2 : Int32) : Int32 := (if p0 = (0 : Int32) then ((0 : Int32)) else ((if p1 = p2 then ((1 : Int32)) else ((0 : Int32)))))
theorem own_lf_own_f25_1 {p0 : Int32} {p1 : Int32} {p2 : Int32} (hc1 : p0 = (0 : Int32)) : (some (.int 0) : Option Value) = some (.int (own_f25 p0 p1 p2)) := by
  first | (simp only [own_f25, if_pos hc1]; done) | (simp only [own_f25, if_pos hc1]; rfl) | rfl
theorem own_lf_own_f25_2 {p0 : Int32} {p1 : Int32} {p2 : Int32} (hc1 : ¬ (p0 = (0 : Int32))) (hc2 : p1 = p2) : (some (.int 1) : Option Value) = some (.int (own_f25 p0 p1 p2)) := by
  first | (simp only [own_f25, if_neg hc1, if_pos hc2]; done) | (simp only [own_f25, if_neg hc1, if_pos hc2]; rfl) | rfl
theorem own_lf_own_f25_3 {p0 : Int32} {p1 : Int32} {p2 : Int32} (hc1 : ¬ (p0 = (0 : Int32))) (hc2 : ¬ (p1 = p2)) : (some (.int 0) : Option Value) = some (.int (own_f25 p0 p1 p2)) := by
  first | (simp only [own_f25, if_neg hc1, if_neg hc2]; done) | (simp only [own_f25, if_neg hc1, if_neg hc2]; rfl) | rfl
set_option maxRecDepth 65536 in
set_option maxHeartbeats 40000000 in
theorem rm25 (l : Launch) (Z : State) (a0 : Array Value) (hw : oH Z a0) (ws : List Jvm.Cond) (p0 : Int32) (p1 : Int32) (p2 : Int32) (h0 : Heap) (n0 : Nat) (Z0 : n0 ≤ h0.size) :
    MetFree l oM28 (head1 (Jvm.Cond.code oM28 method_2_code 3 (some .int) :: ws) own_rm25_room) (fun a U => a = #[(.int p0), (.int p1), (.int p2)] ∧ Z.Warmed39 U.vm ∧ U.heap = h0) (fun _ _ _ _ _ => True) (fun _ U o U' => ∃ v L, o = .returned v ∧ own_QP (some (.int (own_f25 p0 p1 p2))) h0 n0 v U'.heap L ∧ FrameEnd U o U' L own_rm25_room.cells own_rm25_room.slots) := by
 refine MetFree.of_bodySF (plainFor_of_name pn_25) hisR ?_
 intro p e s m args below meth c s₁ Bd hml0 hP hK
 obtain ⟨rfl, hZ, hh⟩ := hP
 have hx := Bd.exec
 have hby := Bd.bytes
 have hml : c.maxLocals = 3 := hml0
 have hown : s.vm.findClass oC7 = some m.cls := findClass_of_methodNamed Bd.named
 have hnm := (name_of_methodNamed Bd.named Bd.method).1
 have hlk : meth.locks = false := BodyLoose.notSynchronized Bd
 have X0 : Stand p l e own_rm25_room s m #[(.int p0), (.int p1), (.int p2)] below meth c s₁ [] 0 0 := Stand.of_body Bd
 have e0 : s₁.heap = h0 := by rw [← hh, Bd.state]; rfl
 have N0 := Fr.nil n0
 show own_Fin p.tables e below s (own_QP (some (.int (own_f25 p0 p1 p2))) h0 n0) own_rm25_room.cells own_rm25_room.slots (s₁.setTop (entryFrame m #[(.int p0), (.int p1), (.int p2)] 3))
 rw [ef_25]
 show oF (s₁.setTop (mkF m 0 #[oI p0, oI p1, oI p2] []))
 refine own_go (fun _ k => XS.iloadN X0.here hx rfl (hb hby d25_0) rfl k) ?_
 by_cases hc1 : p0 = (0 : Int32)
 · refine own_go (fun _ k => XS.ifYes X0.here hx rfl (pc0 := 1) (pc' := 13) rfl (hb hby d25_1) rfl ((if0 _ _).trans (teq hc1).1) (by decide) (by decide) (XS.iconst X0.here hx rfl (hb hby d25_13) k)) ?_
   refine own_ret X0 hx hlk Bd.returns rfl (Or.inl ⟨rfl, by simp, _, rfl⟩) (hb hby d25_14) (Nat.le_of_ble_eq_true rfl) (Nat.le_of_ble_eq_true rfl) ?_
   exact ⟨(own_lf_own_f25_1 (p0 := p0) (p1 := p1) (p2 := p2) hc1), N0, e0⟩
 · refine own_go (fun _ k => XS.ifNo X0.here hx rfl (hb hby d25_1) rfl ((if0 _ _).trans (feq hc1).1) (XS.iloadN X0.here hx rfl (hb hby d25_4) rfl (XS.iloadN X0.here hx rfl (hb hby d25_5) rfl k))) ?_
   by_cases hc2 : p1 = p2
   · refine own_go (fun _ k => XS.icmpNo X0.here hx rfl (hb hby d25_6) rfl (teq hc2).2 (XS.iconst X0.here hx rfl (hb hby d25_9) (XS.goto X0.here hx rfl (pc0 := 10) (pc' := 14) rfl (hb hby d25_10) (by decide) (by decide) k))) ?_
     refine own_ret X0 hx hlk Bd.returns rfl (Or.inl ⟨rfl, by simp, _, rfl⟩) (hb hby d25_14) (Nat.le_of_ble_eq_true rfl) (Nat.le_of_ble_eq_true rfl) ?_
     exact ⟨(own_lf_own_f25_2 (p0 := p0) (p1 := p1) (p2 := p2) hc1 hc2), N0, e0⟩
   · refine own_go (fun _ k => XS.icmpYes X0.here hx rfl (pc0 := 6) (pc' := 13) rfl (hb hby d25_6) rfl (feq hc2).2 (by decide) (by decide) (XS.iconst X0.here hx rfl (hb hby d25_13) k)) ?_
     refine own_ret X0 hx hlk Bd.returns rfl (Or.inl ⟨rfl, by simp, _, rfl⟩) (hb hby d25_14) (Nat.le_of_ble_eq_true rfl) (Nat.le_of_ble_eq_true rfl) ?_
     exact ⟨(own_lf_own_f25_3 (p0 := p0) (p1 := p1) (p2 := p2) hc1 hc2), N0, e0⟩
theorem d26_0 : oQ oD29 0 (.iload_n 0) 1 := by decide +kernel
theorem d26_1 : oQ oD29 1 (.ifCond .eq 12) 3 := by decide +kernel
theorem d26_4 : oQ oD29 4 (.iload_n 1) 1 := by decide +kernel
theorem d26_5 : oQ oD29 5 (.iload_n 2) 1 := by decide +kernel
theorem d26_6 : oQ oD29 6 (.if_icmp .ge 7) 3 := by decide +kernel
theorem d26_9 : oQ oD29 9 (.iconst 1) 1 := by decide +kernel
theorem d26_10 : oQ oD29 10 (.goto 4) 3 := by decide +kernel
theorem d26_13 : oQ oD29 13 (.iconst 0) 1 := by decide +kernel
theorem d26_14 : oQ oD29 14 .ireturn 1 := by decide +kernel
theorem pn_26 : plainName oC7 = true := by first | (simp [plainName, overriddenIn]; done) | decide +kernel
theorem ef_26 (m : MethodId) (p0 : Int32) (p1 : Int32) (p2 : Int32) : entryFrame m #[(.int p0), (.int p1), (.int p2)] 3 = mkF m 0 #[oI p0, oI p1, oI p2] [] := by first | (simp [entryFrame, mkF, argsToLocals, Value.category]; done) | rfl
def own_rm26_room : Room := { frames := 0, cells := 0, slots := 0, locals := 0 }
def own_f26 (p0 : Int32) (p1 : Int32) (p2 : Int32) : Int32 := (if p0 = (0 : Int32) then ((0 : Int32)) else ((if p1 < p2 then ((1 : Int32)) else ((0 : Int32)))))
theorem own_lf_own_f26_1 {p0 : Int32} {p1 : Int32} {p2 : Int32} (hc1 : p0 = (0 : Int32)) : (some (.int 0) : Option Value) = some (.int (own_f26 p0 p1 p2)) := by
  first | (simp only [own_f26, if_pos hc1]; done) | (simp only [own_f26, if_pos hc1]; rfl) | rfl
theorem own_lf_own_f26_2 {p0 : Int32} {p1 : Int32} {p2 : Int32} (hc1 : ¬ (p0 = (0 : Int32))) (hc2 : p1 < p2) : (some (.int 1) : Option Value) = some (.int (own_f26 p0 p1 p2)) := by
  first | (simp only [own_f26, if_neg hc1, if_pos hc2]; done) | (simp only [own_f26, if_neg hc1, if_pos hc2]; rfl) | rfl
theorem own_lf_own_f26_3 {p0 : Int32} {p1 : Int32} {p2 : Int32} (hc1 : ¬ (p0 = (0 : Int32))) (hc2 : ¬ (p1 < p2)) : (some (.int 0) : Option Value) = some (.int (own_f26 p0 p1 p2)) := by
  first | (simp only [own_f26, if_neg hc1, if_neg hc2]; done) | (simp only [own_f26, if_neg hc1, if_neg hc2]; rfl) | rfl
set_option maxRecDepth 65536 in
set_option maxHeartbeats 40000000 in
theorem rm26 (l : Launch) (Z : State) (a0 : Array Value) (hw : oH Z a0) (ws : List Jvm.Cond) (p0 : Int32) (p1 : Int32) (p2 : Int32) (h0 : Heap) (n0 : Nat) (Z0 : n0 ≤ h0.size) :
    MetFree l oM29 (head1 (Jvm.Cond.code oM29 method_3_code 3 (some .int) :: ws) own_rm26_room) (fun a U => a = #[(.int p0), (.int p1), (.int p2)] ∧ Z.Warmed39 U.vm ∧ U.heap = h0) (fun _ _ _ _ _ => True) (fun _ U o U' => ∃ v L, o = .returned v ∧ own_QP (some (.int (own_f26 p0 p1 p2))) h0 n0 v U'.heap L ∧ FrameEnd U o U' L own_rm26_room.cells own_rm26_room.slots) := by
 refine MetFree.of_bodySF (plainFor_of_name pn_26) hisR ?_
 intro p e s m args below meth c s₁ Bd hml0 hP hK
 obtain ⟨rfl, hZ, hh⟩ := hP
 have hx := Bd.exec
 have hby := Bd.bytes
 have hml : c.maxLocals = 3 := hml0
 have hown : s.vm.findClass oC7 = some m.cls := findClass_of_methodNamed Bd.named
 have hnm := (name_of_methodNamed Bd.named Bd.method).1
 have hlk : meth.locks = false := BodyLoose.notSynchronized Bd
 have X0 : Stand p l e own_rm26_room s m #[(.int p0), (.int p1), (.int p2)] below meth c s₁ [] 0 0 := Stand.of_body Bd
 have e0 : s₁.heap = h0 := by rw [← hh, Bd.state]; rfl
 have N0 := Fr.nil n0
 show own_Fin p.tables e below s (own_QP (some (.int (own_f26 p0 p1 p2))) h0 n0) own_rm26_room.cells own_rm26_room.slots (s₁.setTop (entryFrame m #[(.int p0), (.int p1), (.int p2)] 3))
 rw [ef_26]
 show oF (s₁.setTop (mkF m 0 #[oI p0, oI p1, oI p2] []))
 refine own_go (fun _ k => XS.iloadN X0.here hx rfl (hb hby d26_0) rfl k) ?_
 by_cases hc1 : p0 = (0 : Int32)
 · refine own_go (fun _ k => XS.ifYes X0.here hx rfl (pc0 := 1) (pc' := 13) rfl (hb hby d26_1) rfl ((if0 _ _).trans (teq hc1).1) (by decide) (by decide) (XS.iconst X0.here hx rfl (hb hby d26_13) k)) ?_
   refine own_ret X0 hx hlk Bd.returns rfl (Or.inl ⟨rfl, by simp, _, rfl⟩) (hb hby d26_14) (Nat.le_of_ble_eq_true rfl) (Nat.le_of_ble_eq_true rfl) ?_
   exact ⟨(own_lf_own_f26_1 (p0 := p0) (p1 := p1) (p2 := p2) hc1), N0, e0⟩
 · refine own_go (fun _ k => XS.ifNo X0.here hx rfl (hb hby d26_1) rfl ((if0 _ _).trans (feq hc1).1) (XS.iloadN X0.here hx rfl (hb hby d26_4) rfl (XS.iloadN X0.here hx rfl (hb hby d26_5) rfl k))) ?_
   by_cases hc2 : p1 < p2
   · refine own_go (fun _ k => XS.icmpNo X0.here hx rfl (hb hby d26_6) rfl (tlt hc2).2.1 (XS.iconst X0.here hx rfl (hb hby d26_9) (XS.goto X0.here hx rfl (pc0 := 10) (pc' := 14) rfl (hb hby d26_10) (by decide) (by decide) k))) ?_
     refine own_ret X0 hx hlk Bd.returns rfl (Or.inl ⟨rfl, by simp, _, rfl⟩) (hb hby d26_14) (Nat.le_of_ble_eq_true rfl) (Nat.le_of_ble_eq_true rfl) ?_
     exact ⟨(own_lf_own_f26_2 (p0 := p0) (p1 := p1) (p2 := p2) hc1 hc2), N0, e0⟩
   · refine own_go (fun _ k => XS.icmpYes X0.here hx rfl (pc0 := 6) (pc' := 13) rfl (hb hby d26_6) rfl (flt hc2).2.1 (by decide) (by decide) (XS.iconst X0.here hx rfl (hb hby d26_13) k)) ?_
     refine own_ret X0 hx hlk Bd.returns rfl (Or.inl ⟨rfl, by simp, _, rfl⟩) (hb hby d26_14) (Nat.le_of_ble_eq_true rfl) (Nat.le_of_ble_eq_true rfl) ?_
     exact ⟨(own_lf_own_f26_3 (p0 := p0) (p1 := p1) (p2 := p2) hc1 hc2), N0, e0⟩
theorem d27_0 : oQ oD30 0 (.iload_n 1) 1 := by decide +kernel
theorem d27_1 : oQ oD30 1 (.iload_n 0) 1 := by decide +kernel
theorem d27_2 : oQ oD30 2 .isub 1 := by decide +kernel
theorem d27_3 : oQ oD30 3 (.iload_n 2) 1 := by decide +kernel
theorem d27_4 : oQ oD30 4 (.if_icmp .eq 5) 3 := by decide +kernel
theorem d27_7 : oQ oD30 7 (.iconst 0) 1 := by decide +kernel
theorem d27_8 : oQ oD30 8 .ireturn 1 := by decide +kernel
theorem d27_9 : oQ oD30 9 (.iload_n 2) 1 := by decide +kernel
theorem d27_10 : oQ oD30 10 (.ifCond .ne 19) 3 := by decide +kernel
theorem d27_13 : oQ oD30 13 (.iload_n 0) 1 := by decide +kernel
theorem d27_14 : oQ oD30 14 (.ifCond .lt 13) 3 := by decide +kernel
theorem d27_17 : oQ oD30 17 (.iload_n 0) 1 := by decide +kernel
theorem d27_18 : oQ oD30 18 (.iload 4) 2 := by decide +kernel
theorem d27_20 : oQ oD30 20 (.if_icmp .gt 7) 3 := by decide +kernel
theorem d27_23 : oQ oD30 23 (.iconst 1) 1 := by decide +kernel
theorem d27_24 : oQ oD30 24 (.goto 4) 3 := by decide +kernel
theorem d27_27 : oQ oD30 27 (.iconst 0) 1 := by decide +kernel
theorem d27_28 : oQ oD30 28 .ireturn 1 := by decide +kernel
theorem d27_29 : oQ oD30 29 (.iload_n 0) 1 := by decide +kernel
theorem d27_30 : oQ oD30 30 (.iload_n 3) 1 := by decide +kernel
theorem d27_31 : oQ oD30 31 (.if_icmp .ne 7) 3 := by decide +kernel
theorem d27_34 : oQ oD30 34 (.iconst 1) 1 := by decide +kernel
theorem d27_35 : oQ oD30 35 (.goto 4) 3 := by decide +kernel
theorem d27_38 : oQ oD30 38 (.iconst 0) 1 := by decide +kernel
theorem d27_39 : oQ oD30 39 .ireturn 1 := by decide +kernel
theorem pn_27 : plainName oC7 = true := by first | (simp [plainName, overriddenIn]; done) | decide +kernel
theorem ef_27 (m : MethodId) (p0 : Int32) (p1 : Int32) (p2 : Int32) (p3 : Int32) (p4 : Int32) : entryFrame m #[(.int p0), (.int p1), (.int p2), (.int p3), (.int p4)] 5 = mkF m 0 #[oI p0, oI p1, oI p2, oI p3, oI p4] [] := by first | (simp [entryFrame, mkF, argsToLocals, Value.category]; done) | rfl
def own_rm27_room : Room := { frames := 0, cells := 0, slots := 0, locals := 0 }
def own_f27 (p0 : Int32) (p1 : Int32) (p2 : Int32) (p3 : Int32) (p4 : Int32) : Int32 := (if (p1 - p0) = p2 then ((if p2 = (0 : Int32) then ((if p0 < (0 : Int32) then ((0 : Int32)) else ((if p4 < p0 then ((0 : Int32)) else ((1 : Int32)))))) else ((if p0 = p3 then ((1 : Int32)) else ((0 : Int32)))))) else ((0 : Int32)))
theorem own_lf_own_f27_1 {p0 : Int32} {p1 : Int32} {p2 : Int32} {p3 : Int32} {p4 : Int32} (hc1 : (p1 - p0) = p2) (hc2 : p2 = (0 : Int32)) (hc3 : p0 < (0 : Int32)) : (some (.int 0) : Option Value) = some (.int (own_f27 p0 p1 p2 p3 p4)) := by
  first | (simp only [own_f27, if_pos hc1, if_pos hc2, if_pos hc3]; done) | (simp only [own_f27, if_pos hc1, if_pos hc2, if_pos hc3]; rfl) | rfl
theorem own_lf_own_f27_2 {p0 : Int32} {p1 : Int32} {p2 : Int32} {p3 : Int32} {p4 : Int32} (hc1 : (p1 - p0) = p2) (hc2 : p2 = (0 : Int32)) (hc3 : ¬ (p0 < (0 : Int32))) (hc4 : p4 < p0) : (some (.int 0) : Option Value) = some (.int (own_f27 p0 p1 p2 p3 p4)) := by
  first | (simp only [own_f27, if_pos hc1, if_pos hc2, if_neg hc3, if_pos hc4]; done) | (simp only [own_f27, if_pos hc1, if_pos hc2, if_neg hc3, if_pos hc4]; rfl) | rfl
theorem own_lf_own_f27_3 {p0 : Int32} {p1 : Int32} {p2 : Int32} {p3 : Int32} {p4 : Int32} (hc1 : (p1 - p0) = p2) (hc2 : p2 = (0 : Int32)) (hc3 : ¬ (p0 < (0 : Int32))) (hc4 : ¬ (p4 < p0)) : (some (.int 1) : Option Value) = some (.int (own_f27 p0 p1 p2 p3 p4)) := by
  first | (simp only [own_f27, if_pos hc1, if_pos hc2, if_neg hc3, if_neg hc4]; done) | (simp only [own_f27, if_pos hc1, if_pos hc2, if_neg hc3, if_neg hc4]; rfl) | rfl
theorem own_lf_own_f27_4 {p0 : Int32} {p1 : Int32} {p2 : Int32} {p3 : Int32} {p4 : Int32} (hc1 : (p1 - p0) = p2) (hc2 : ¬ (p2 = (0 : Int32))) (hc5 : p0 = p3) : (some (.int 1) : Option Value) = some (.int (own_f27 p0 p1 p2 p3 p4)) := by
  first | (simp only [own_f27, if_pos hc1, if_neg hc2, if_pos hc5]; done) | (simp only [own_f27, if_pos hc1, if_neg hc2, if_pos hc5]; rfl) | rfl
theorem own_lf_own_f27_5 {p0 : Int32} {p1 : Int32} {p2 : Int32} {p3 : Int32} {p4 : Int32} (hc1 : (p1 - p0) = p2) (hc2 : ¬ (p2 = (0 : Int32))) (hc5 : ¬ (p0 = p3)) : (some (.int 0) : Option Value) = some (.int (own_f27 p0 p1 p2 p3 p4)) := by
  first | (simp only [own_f27, if_pos hc1, if_neg hc2, if_neg hc5]; done) | (simp only [own_f27, if_pos hc1, if_neg hc2, if_neg hc5]; rfl) | rfl
theorem own_lf_own_f27_6 {p0 : Int32} {p1 : Int32} {p2 : Int32} {p3 : Int32} {p4 : Int32} (hc1 : ¬ ((p1 - p0) = p2)) : (some (.int 0) : Option Value) = some (.int (own_f27 p0 p1 p2 p3 p4)) := by
  first | (simp only [own_f27, if_neg hc1]; done) | (simp only [own_f27, if_neg hc1]; rfl) | rfl
set_option maxRecDepth 65536 in
set_option maxHeartbeats 40000000 in
theorem rm27 (l : Launch) (Z : State) (a0 : Array Value) (hw : oH Z a0) (ws : List Jvm.Cond) (p0 : Int32) (p1 : Int32) (p2 : Int32) (p3 : Int32) (p4 : Int32) (h0 : Heap) (n0 : Nat) (Z0 : n0 ≤ h0.size) :
    MetFree l oM30 (head1 (Jvm.Cond.code oM30 method_4_code 5 (some .boolean) :: ws) own_rm27_room) (fun a U => a = #[(.int p0), (.int p1), (.int p2), (.int p3), (.int p4)] ∧ Z.Warmed39 U.vm ∧ U.heap = h0) (fun _ _ _ _ _ => True) (fun _ U o U' => ∃ v L, o = .returned v ∧ own_QP (some (.int (own_f27 p0 p1 p2 p3 p4))) h0 n0 v U'.heap L ∧ FrameEnd U o U' L own_rm27_room.cells own_rm27_room.slots) := by
 refine MetFree.of_bodySF (plainFor_of_name pn_27) hisR ?_
 intro p e s m args below meth c s₁ Bd hml0 hP hK
 obtain ⟨rfl, hZ, hh⟩ := hP
 have hx := Bd.exec
 have hby := Bd.bytes
 have hml : c.maxLocals = 5 := hml0
 have hown : s.vm.findClass oC7 = some m.cls := findClass_of_methodNamed Bd.named
 have hnm := (name_of_methodNamed Bd.named Bd.method).1
 have hlk : meth.locks = false := BodyLoose.notSynchronized Bd
 have X0 : Stand p l e own_rm27_room s m #[(.int p0), (.int p1), (.int p2), (.int p3), (.int p4)] below meth c s₁ [] 0 0 := Stand.of_body Bd
 have e0 : s₁.heap = h0 := by rw [← hh, Bd.state]; rfl
 have N0 := Fr.nil n0
 show own_Fin p.tables e below s (own_QP (some (.int (own_f27 p0 p1 p2 p3 p4))) h0 n0) own_rm27_room.cells own_rm27_room.slots (s₁.setTop (entryFrame m #[(.int p0), (.int p1), (.int p2), (.int p3), (.int p4)] 5))
 rw [ef_27]
 show oF (s₁.setTop (mkF m 0 #[oI p0, oI p1, oI p2, oI p3, oI p4] []))
 refine own_go (fun _ k => XS.iloadN X0.here hx rfl (hb hby d27_0) rfl (XS.iloadN X0.here hx rfl (hb hby d27_1) rfl (XS.isub X0.here hx rfl (hb hby d27_2) rfl (XS.iloadN X0.here hx rfl (hb hby d27_3) rfl k)))) ?_
 by_cases hc1 : (p1 - p0) = p2
 · refine own_go (fun _ k => XS.icmpYes X0.here hx rfl (pc0 := 4) (pc' := 9) rfl (hb hby d27_4) rfl (teq hc1).1 (by decide) (by decide) (XS.iloadN X0.here hx rfl (hb hby d27_9) rfl k)) ?_
   by_cases hc2 : p2 = (0 : Int32)
   · refine own_go (fun _ k => XS.ifNo X0.here hx rfl (hb hby d27_10) rfl ((if0 _ _).trans (teq hc2).2) (XS.iloadN X0.here hx rfl (hb hby d27_13) rfl k)) ?_
     by_cases hc3 : p0 < (0 : Int32)
     · refine own_go (fun _ k => XS.ifYes X0.here hx rfl (pc0 := 14) (pc' := 27) rfl (hb hby d27_14) rfl ((if0 _ _).trans (tlt hc3).1) (by decide) (by decide) (XS.iconst X0.here hx rfl (hb hby d27_27) k)) ?_
       refine own_ret X0 hx hlk Bd.returns rfl (Or.inl ⟨rfl, by simp, _, rfl⟩) (hb hby d27_28) (Nat.le_of_ble_eq_true rfl) (Nat.le_of_ble_eq_true rfl) ?_
       exact ⟨(own_lf_own_f27_1 (p0 := p0) (p1 := p1) (p2 := p2) (p3 := p3) (p4 := p4) hc1 hc2 hc3), N0, e0⟩
     · refine own_go (fun _ k => XS.ifNo X0.here hx rfl (hb hby d27_14) rfl ((if0 _ _).trans (flt hc3).1) (XS.iloadN X0.here hx rfl (hb hby d27_17) rfl (XS.iload X0.here hx rfl (hb hby d27_18) rfl k))) ?_
       by_cases hc4 : p4 < p0
       · refine own_go (fun _ k => XS.icmpYes X0.here hx rfl (pc0 := 20) (pc' := 27) rfl (hb hby d27_20) rfl (tlt hc4).2.2.1 (by decide) (by decide) (XS.iconst X0.here hx rfl (hb hby d27_27) k)) ?_
         refine own_ret X0 hx hlk Bd.returns rfl (Or.inl ⟨rfl, by simp, _, rfl⟩) (hb hby d27_28) (Nat.le_of_ble_eq_true rfl) (Nat.le_of_ble_eq_true rfl) ?_
         exact ⟨(own_lf_own_f27_2 (p0 := p0) (p1 := p1) (p2 := p2) (p3 := p3) (p4 := p4) hc1 hc2 hc3 hc4), N0, e0⟩
       · refine own_go (fun _ k => XS.icmpNo X0.here hx rfl (hb hby d27_20) rfl (flt hc4).2.2.1 (XS.iconst X0.here hx rfl (hb hby d27_23) (XS.goto X0.here hx rfl (pc0 := 24) (pc' := 28) rfl (hb hby d27_24) (by decide) (by decide) k))) ?_
         refine own_ret X0 hx hlk Bd.returns rfl (Or.inl ⟨rfl, by simp, _, rfl⟩) (hb hby d27_28) (Nat.le_of_ble_eq_true rfl) (Nat.le_of_ble_eq_true rfl) ?_
         exact ⟨(own_lf_own_f27_3 (p0 := p0) (p1 := p1) (p2 := p2) (p3 := p3) (p4 := p4) hc1 hc2 hc3 hc4), N0, e0⟩
   · refine own_go (fun _ k => XS.ifYes X0.here hx rfl (pc0 := 10) (pc' := 29) rfl (hb hby d27_10) rfl ((if0 _ _).trans (feq hc2).2) (by decide) (by decide) (XS.iloadN X0.here hx rfl (hb hby d27_29) rfl (XS.iloadN X0.here hx rfl (hb hby d27_30) rfl k))) ?_
     by_cases hc5 : p0 = p3
     · refine own_go (fun _ k => XS.icmpNo X0.here hx rfl (hb hby d27_31) rfl (teq hc5).2 (XS.iconst X0.here hx rfl (hb hby d27_34) (XS.goto X0.here hx rfl (pc0 := 35) (pc' := 39) rfl (hb hby d27_35) (by decide) (by decide) k))) ?_
       refine own_ret X0 hx hlk Bd.returns rfl (Or.inl ⟨rfl, by simp, _, rfl⟩) (hb hby d27_39) (Nat.le_of_ble_eq_true rfl) (Nat.le_of_ble_eq_true rfl) ?_
       exact ⟨(own_lf_own_f27_4 (p0 := p0) (p1 := p1) (p2 := p2) (p3 := p3) (p4 := p4) hc1 hc2 hc5), N0, e0⟩
     · refine own_go (fun _ k => XS.icmpYes X0.here hx rfl (pc0 := 31) (pc' := 38) rfl (hb hby d27_31) rfl (feq hc5).2 (by decide) (by decide) (XS.iconst X0.here hx rfl (hb hby d27_38) k)) ?_
       refine own_ret X0 hx hlk Bd.returns rfl (Or.inl ⟨rfl, by simp, _, rfl⟩) (hb hby d27_39) (Nat.le_of_ble_eq_true rfl) (Nat.le_of_ble_eq_true rfl) ?_
       exact ⟨(own_lf_own_f27_5 (p0 := p0) (p1 := p1) (p2 := p2) (p3 := p3) (p4 := p4) hc1 hc2 hc5), N0, e0⟩
 · refine own_go (fun _ k => XS.icmpNo X0.here hx rfl (hb hby d27_4) rfl (feq hc1).1 (XS.iconst X0.here hx rfl (hb hby d27_7) k)) ?_
   refine own_ret X0 hx hlk Bd.returns rfl (Or.inl ⟨rfl, by simp, _, rfl⟩) (hb hby d27_8) (Nat.le_of_ble_eq_true rfl) (Nat.le_of_ble_eq_true rfl) ?_
   exact ⟨(own_lf_own_f27_6 (p0 := p0) (p1 := p1) (p2 := p2) (p3 := p3) (p4 := p4) hc1), N0, e0⟩
/-! the law's own facts -/
def own_J (n : Int32) (k : Nat) (L0 L1 : List Int32) : Prop := L0.length + L1.length ≤ k ∧ ∀ r ∈ L0 ++ L1, own_in r n
theorem own_J0 (n : Int32) : own_J n 0 [] [] := ⟨Nat.le_refl _, fun r hr => absurd hr List.not_mem_nil⟩
theorem own_Jw {n : Int32} {k : Nat} {L0 L1 : List Int32} (h : own_J n k L0 L1) : own_J n (k + 1) L0 L1 := ⟨Nat.le_succ_of_le h.1, h.2⟩
theorem own_Jp {n r b : Int32} {k : Nat} {L0 L1 : List Int32} (h : own_J n k L0 L1) (hr : own_in r n) : own_J n (k + 1) (own_psh b (0 : Int32) L0 r) (own_psh b (1 : Int32) L1 r) := by
  obtain ⟨h1, h2⟩ := h
  unfold own_psh
  by_cases e0 : b = 0
  · have e1 : ¬ b = 1 := by rw [e0]; decide
    rw [if_pos e0, if_neg e1]
    refine ⟨by rw [List.length_append, List.length_singleton]; omega, fun x hx => ?_⟩
    simp only [List.mem_append, List.mem_singleton] at hx
    rcases hx with (hx | rfl) | hx
    · exact h2 x (List.mem_append_left _ hx)
    · exact hr
    · exact h2 x (List.mem_append_right _ hx)
  · rw [if_neg e0]
    by_cases e1 : b = 1
    · rw [if_pos e1]
      refine ⟨by rw [List.length_append, List.length_singleton]; omega, fun x hx => ?_⟩
      simp only [List.mem_append, List.mem_singleton] at hx
      rcases hx with hx | hx | rfl
      · exact h2 x (List.mem_append_left _ hx)
      · exact h2 x (List.mem_append_right _ hx)
      · exact hr
    · rw [if_neg e1]; exact ⟨by omega, h2⟩
theorem own_Ji {n : Int32} {k : Nat} {A A' B B' : List Int32} {c : Prop} [Decidable c] (h : own_J n k A A') (h' : own_J n k B B') : own_J n k (if c then A else B) (if c then A' else B') := by
  split
  · exact h
  · exact h'
theorem own_an (x : Int32) (m : Nat) (y : Int32) (hy : y.toInt = 2 ^ m - 1) (hm : m ≤ 31) (hb : y.toBitVec.toNat = 2 ^ m - 1) : 0 ≤ (x &&& y).toInt ∧ (x &&& y).toInt ≤ 2 ^ m - 1 := by
  have e : (x &&& y).toBitVec.toNat ≤ 2 ^ m - 1 := by
    show (x.toBitVec &&& y.toBitVec).toNat ≤ _
    rw [BitVec.toNat_and, hb]; exact Nat.and_le_right
  have hp : (2 : Nat) ^ m ≤ 2 ^ 31 := Nat.pow_le_pow_right (by decide) hm
  have hp1 : 0 < (2 : Nat) ^ m := Nat.two_pow_pos m
  have e2 : (x &&& y).toInt = ((x &&& y).toBitVec.toNat : Int) := by
    show (x &&& y).toBitVec.toInt = _
    rw [BitVec.toInt_eq_toNat_cond, if_pos (by omega)]
  have e3 : ((2 : Int) ^ m) = ((2 ^ m : Nat) : Int) := by simp
  rw [e2, e3]; omega
theorem own_n1 (x : Int32) : own_n14 ((1 : Int32) + (x &&& (3 : Int32))) := by
  obtain ⟨h1, h2⟩ := own_an x 2 3 (by decide) (by decide) (by decide)
  have e : (x &&& (3 : Int32)) = Int32.ofInt (x &&& (3 : Int32)).toInt := (Int32.ofInt_toInt _).symm
  rw [e]
  generalize (x &&& (3 : Int32)).toInt = z at *
  have : z = 0 ∨ z = 1 ∨ z = 2 ∨ z = 3 := by omega
  rcases this with rfl | rfl | rfl | rfl
  · exact Or.inl (by decide)
  · exact Or.inr (Or.inl (by decide))
  · exact Or.inr (Or.inr (Or.inl (by decide)))
  · exact Or.inr (Or.inr (Or.inr (by decide)))
theorem own_nz1 (x : Int32) : (1 : Int32) + (x &&& (3 : Int32)) ≠ 0 := by
  rcases own_n1 x with h | h | h | h <;> (rw [h]; decide)
theorem own_inr {x n : Int32} (hx : 0 ≤ x.toInt) (hn : own_n14 n) : own_in (x % n) n := by
  have e : (x % n).toInt = x.toInt.tmod n.toInt := Int32.toInt_mod x n
  have k0 : (0 : Int32).toInt = 0 := by decide
  have hp : 0 < n.toInt := by rcases hn with rfl | rfl | rfl | rfl <;> decide
  have a := Int.tmod_nonneg n.toInt hx
  have b := Int.tmod_lt_of_pos x.toInt hp
  exact ⟨by rw [Int32.lt_iff_toInt_lt, e, k0]; omega, by rw [Int32.lt_iff_toInt_lt, e]; exact b⟩
theorem own_in1 (x y : Int32) : own_in ((x &&& (2147483647 : Int32)) % ((1 : Int32) + (y &&& (3 : Int32)))) ((1 : Int32) + (y &&& (3 : Int32))) :=
  own_inr (own_an x 31 2147483647 (by decide) (by decide) (by decide)).1 (own_n1 y)
theorem own_us (x k : Int32) (j : Nat) (hk : ((k &&& 31).toUInt32.toBitVec.toNat) % 32 = j) (hj : 0 < j) : 0 ≤ (own_iushr x k).toInt := by
  show 0 ≤ (own_iushr x k).toBitVec.toInt
  have e : (own_iushr x k).toBitVec = x.toBitVec >>> j := by
    show (x.toUInt32 >>> (k &&& 31).toUInt32).toBitVec = _
    rw [UInt32.toBitVec_shiftRight]
    show x.toBitVec >>> ((k &&& 31).toUInt32.toBitVec % 32#32) = _
    have e1 : ((k &&& 31).toUInt32.toBitVec % 32#32).toNat = j := by rw [BitVec.toNat_umod]; exact hk
    rw [BitVec.ushiftRight_eq', e1]
  rw [e, BitVec.toInt_eq_toNat_cond, if_pos]
  · omega
  · rw [BitVec.toNat_ushiftRight, Nat.shiftRight_eq_div_pow]
    have : x.toBitVec.toNat < 2 ^ 32 := x.toBitVec.isLt
    have h2 : 2 ≤ 2 ^ j := Nat.le_trans (by decide) (Nat.pow_le_pow_right (by decide) hj)
    have : x.toBitVec.toNat / 2 ^ j ≤ x.toBitVec.toNat / 2 := Nat.div_le_div_left h2 (by decide)
    omega
theorem own_in2 (x y : Int32) : own_in ((own_iushr x (2 : Int32)) % ((1 : Int32) + (y &&& (3 : Int32)))) ((1 : Int32) + (y &&& (3 : Int32))) :=
  own_inr (own_us x 2 2 (by decide) (by decide)) (own_n1 y)
theorem own_in16 (x y : Int32) : own_in ((own_iushr x (16 : Int32)) % ((1 : Int32) + (y &&& (3 : Int32)))) ((1 : Int32) + (y &&& (3 : Int32))) :=
  own_inr (own_us x 16 16 (by decide) (by decide)) (own_n1 y)
theorem own_b01 (x : Int32) : (x &&& (1 : Int32)) = 0 ∨ (x &&& (1 : Int32)) = 1 := by
  obtain ⟨h1, h2⟩ := own_an x 1 1 (by decide) (by decide) (by decide)
  have e : (x &&& (1 : Int32)) = Int32.ofInt (x &&& (1 : Int32)).toInt := (Int32.ofInt_toInt _).symm
  rw [e]
  generalize (x &&& (1 : Int32)).toInt = z at *
  have : z = 0 ∨ z = 1 := by omega
  rcases this with rfl | rfl
  · exact Or.inl (by decide)
  · exact Or.inr (by decide)

theorem own_pd943 : parseMethodDescriptor "(IILjava/lang/String;)V" = some ⟨[.int, .int, (.object oC12)], none⟩ := by decide +kernel
theorem own_pd944 : parseMethodDescriptor "(IIIJ)V" = some ⟨[.int, .int, .int, .long], none⟩ := by decide +kernel
theorem own_pd945 : parseMethodDescriptor "(I)Z" = some ⟨[.int], some .boolean⟩ := by decide +kernel
theorem own_pd946 : parseMethodDescriptor "(ZII)I" = some ⟨[.boolean, .int, .int], some .int⟩ := by decide +kernel
theorem own_pd947 : parseMethodDescriptor "(IIIII)Z" = some ⟨[.int, .int, .int, .int, .int], some .boolean⟩ := by decide +kernel
theorem pn_0 : plainName oC7 = true := by first | (simp [plainName, overriddenIn]; done) | decide +kernel
theorem ef_0 (m : MethodId) (p0 : Int32) (p1 : Int32) (p2 : Int32) (p3 : Int32) (p4 : Int32) (p5 : Int32) : entryFrame m #[(.int p0), (.int p1), (.int p2), (.int p3), (.int p4), (.int p5)] maxLocals = mkF m 0 #[oI p0, oI p1, oI p2, oI p3, oI p4, oI p5, oU, oU, oU, oU, oU, oU, oU, oU, oU, oU, oU, oU, oU, oU, oU, oU, oU, oU, oU, oU, oU, oU, oU, oU, oU, oU, oU] [] := by first | (simp [entryFrame, mkF, argsToLocals, Value.category, maxLocals]; done) | rfl
def own_f0 (p0 : Int32) (p1 : Int32) (p2 : Int32) (p3 : Int32) (p4 : Int32) (p5 : Int32) : Int32 := let z1 := ((1 : Int32) + (p5 &&& (3 : Int32))); let z2 := ((own_iushr p5 (2 : Int32)) % z1); let z3 := ((p0 &&& (2147483647 : Int32)) % z1); let z4 := ((p1 &&& (2147483647 : Int32)) % z1); let z5 := ((p2 &&& (2147483647 : Int32)) % z1); let z6 := ((own_iushr p1 (16 : Int32)) % z1); let z7 := ((own_iushr p3 (2 : Int32)) &&& (1 : Int32)); let z8 := ((own_iushr p3 (3 : Int32)) &&& (1 : Int32)); let z9 := ((own_iushr p3 (4 : Int32)) &&& (1 : Int32)); let z10 := ((own_iushr p3 (5 : Int32)) &&& (1 : Int32)); let z11 := ((own_iushr p3 (6 : Int32)) &&& (1 : Int32)); let z15 := (if (0 : Int32) < (p3 &&& (3 : Int32)) then (1 : Int32) else (0 : Int32)); let z19 := (if (1 : Int32) < (p3 &&& (3 : Int32)) then (1 : Int32) else (0 : Int32)); let z23 := (if (2 : Int32) < (p3 &&& (3 : Int32)) then (1 : Int32) else (0 : Int32)); let z27 := (if (0 : Int32) < z7 then (1 : Int32) else (0 : Int32)); let f36 := (if z15 = (0 : Int32) then [] else (own_psh z8 (0 : Int32) [] z3)); let f37 := (if z15 = (0 : Int32) then [] else (own_psh z8 (1 : Int32) [] z3)); let f42 := (if z19 = (0 : Int32) then f36 else (own_psh z9 (0 : Int32) f36 z4)); let f43 := (if z19 = (0 : Int32) then f37 else (own_psh z9 (1 : Int32) f37 z4)); let f48 := (if z23 = (0 : Int32) then f42 else (own_psh z10 (0 : Int32) f42 z5)); let f49 := (if z23 = (0 : Int32) then f43 else (own_psh z10 (1 : Int32) f43 z5)); let z52 := ((own_FF f48 f49) z2.toNatClampNeg); let z54 := ((own_EE f48 f49) z2.toNatClampNeg); let z58 := (((own_f25 z15 z3 z2) + (own_f25 z19 z4 z2)) + (own_f25 z23 z5 z2)); let z62 := (((own_f26 z15 z3 z2) + (own_f26 z19 z4 z2)) + (own_f26 z23 z5 z2)); let z64 := (own_f27 z52 z54 z58 z62 (p3 &&& (3 : Int32))); let f69 := (if z27 = (0 : Int32) then [] else (own_psh z11 (0 : Int32) [] z6)); let f70 := (if z27 = (0 : Int32) then [] else (own_psh z11 (1 : Int32) [] z6)); let z73 := ((own_FF f69 f70) z2.toNatClampNeg); let z75 := ((own_EE f69 f70) z2.toNatClampNeg); let z79 := (own_f27 z73 z75 (own_f25 z27 z6 z2) (own_f26 z27 z6 z2) z7); (if z64 = (0 : Int32) then ((0 : Int32)) else ((if z79 = (0 : Int32) then ((0 : Int32)) else ((1 : Int32)))))
theorem own_lf_own_f0_1 {p0 : Int32} {p1 : Int32} {p2 : Int32} {p3 : Int32} {p4 : Int32} {p5 : Int32} {z1 : Int32} {z2 : Int32} {z3 : Int32} {z4 : Int32} {z5 : Int32} {z8 : Int32} {z9 : Int32} {z10 : Int32} {z15 : Int32} {z19 : Int32} {z23 : Int32} {f36 : List Int32} {f37 : List Int32} {f42 : List Int32} {f43 : List Int32} {f48 : List Int32} {f49 : List Int32} {z52 : Int32} {z54 : Int32} {z58 : Int32} {z62 : Int32} {z64 : Int32} (hz1 : ((1 : Int32) + (p5 &&& (3 : Int32))) = z1) (hz2 : ((own_iushr p5 (2 : Int32)) % z1) = z2) (hz3 : ((p0 &&& (2147483647 : Int32)) % z1) = z3) (hz4 : ((p1 &&& (2147483647 : Int32)) % z1) = z4) (hz5 : ((p2 &&& (2147483647 : Int32)) % z1) = z5) (hz8 : ((own_iushr p3 (3 : Int32)) &&& (1 : Int32)) = z8) (hz9 : ((own_iushr p3 (4 : Int32)) &&& (1 : Int32)) = z9) (hz10 : ((own_iushr p3 (5 : Int32)) &&& (1 : Int32)) = z10) (hz15 : (if (0 : Int32) < (p3 &&& (3 : Int32)) then (1 : Int32) else (0 : Int32)) = z15) (hz19 : (if (1 : Int32) < (p3 &&& (3 : Int32)) then (1 : Int32) else (0 : Int32)) = z19) (hz23 : (if (2 : Int32) < (p3 &&& (3 : Int32)) then (1 : Int32) else (0 : Int32)) = z23) (hf36 : f36 = (if z15 = (0 : Int32) then [] else (own_psh z8 (0 : Int32) [] z3))) (hf37 : f37 = (if z15 = (0 : Int32) then [] else (own_psh z8 (1 : Int32) [] z3))) (hf42 : f42 = (if z19 = (0 : Int32) then f36 else (own_psh z9 (0 : Int32) f36 z4))) (hf43 : f43 = (if z19 = (0 : Int32) then f37 else (own_psh z9 (1 : Int32) f37 z4))) (hf48 : f48 = (if z23 = (0 : Int32) then f42 else (own_psh z10 (0 : Int32) f42 z5))) (hf49 : f49 = (if z23 = (0 : Int32) then f43 else (own_psh z10 (1 : Int32) f43 z5))) (hz52 : ((own_FF f48 f49) z2.toNatClampNeg) = z52) (hz54 : ((own_EE f48 f49) z2.toNatClampNeg) = z54) (hz58 : (((own_f25 z15 z3 z2) + (own_f25 z19 z4 z2)) + (own_f25 z23 z5 z2)) = z58) (hz62 : (((own_f26 z15 z3 z2) + (own_f26 z19 z4 z2)) + (own_f26 z23 z5 z2)) = z62) (hz64 : (own_f27 z52 z54 z58 z62 (p3 &&& (3 : Int32))) = z64) (hc80 : z64 = (0 : Int32)) : (some (.int 0) : Option Value) = some (.int (own_f0 p0 p1 p2 p3 p4 p5)) := by
  subst hz64
  subst hz62
  subst hz58
  subst hz54
  subst hz52
  subst hf49
  subst hf48
  subst hf43
  subst hf42
  subst hf37
  subst hf36
  subst hz23
  subst hz19
  subst hz15
  subst hz10
  subst hz9
  subst hz8
  subst hz5
  subst hz4
  subst hz3
  subst hz2
  subst hz1
  first | (simp only [own_f0, if_pos hc80]; done) | (simp only [own_f0, if_pos hc80]; rfl) | rfl
theorem own_lf_own_f0_2 {p0 : Int32} {p1 : Int32} {p2 : Int32} {p3 : Int32} {p4 : Int32} {p5 : Int32} {z1 : Int32} {z2 : Int32} {z3 : Int32} {z4 : Int32} {z5 : Int32} {z6 : Int32} {z7 : Int32} {z8 : Int32} {z9 : Int32} {z10 : Int32} {z11 : Int32} {z15 : Int32} {z19 : Int32} {z23 : Int32} {z27 : Int32} {f36 : List Int32} {f37 : List Int32} {f42 : List Int32} {f43 : List Int32} {f48 : List Int32} {f49 : List Int32} {z52 : Int32} {z54 : Int32} {z58 : Int32} {z62 : Int32} {z64 : Int32} {f69 : List Int32} {f70 : List Int32} {z73 : Int32} {z75 : Int32} {z79 : Int32} (hz1 : ((1 : Int32) + (p5 &&& (3 : Int32))) = z1) (hz2 : ((own_iushr p5 (2 : Int32)) % z1) = z2) (hz3 : ((p0 &&& (2147483647 : Int32)) % z1) = z3) (hz4 : ((p1 &&& (2147483647 : Int32)) % z1) = z4) (hz5 : ((p2 &&& (2147483647 : Int32)) % z1) = z5) (hz6 : ((own_iushr p1 (16 : Int32)) % z1) = z6) (hz7 : ((own_iushr p3 (2 : Int32)) &&& (1 : Int32)) = z7) (hz8 : ((own_iushr p3 (3 : Int32)) &&& (1 : Int32)) = z8) (hz9 : ((own_iushr p3 (4 : Int32)) &&& (1 : Int32)) = z9) (hz10 : ((own_iushr p3 (5 : Int32)) &&& (1 : Int32)) = z10) (hz11 : ((own_iushr p3 (6 : Int32)) &&& (1 : Int32)) = z11) (hz15 : (if (0 : Int32) < (p3 &&& (3 : Int32)) then (1 : Int32) else (0 : Int32)) = z15) (hz19 : (if (1 : Int32) < (p3 &&& (3 : Int32)) then (1 : Int32) else (0 : Int32)) = z19) (hz23 : (if (2 : Int32) < (p3 &&& (3 : Int32)) then (1 : Int32) else (0 : Int32)) = z23) (hz27 : (if (0 : Int32) < z7 then (1 : Int32) else (0 : Int32)) = z27) (hf36 : f36 = (if z15 = (0 : Int32) then [] else (own_psh z8 (0 : Int32) [] z3))) (hf37 : f37 = (if z15 = (0 : Int32) then [] else (own_psh z8 (1 : Int32) [] z3))) (hf42 : f42 = (if z19 = (0 : Int32) then f36 else (own_psh z9 (0 : Int32) f36 z4))) (hf43 : f43 = (if z19 = (0 : Int32) then f37 else (own_psh z9 (1 : Int32) f37 z4))) (hf48 : f48 = (if z23 = (0 : Int32) then f42 else (own_psh z10 (0 : Int32) f42 z5))) (hf49 : f49 = (if z23 = (0 : Int32) then f43 else (own_psh z10 (1 : Int32) f43 z5))) (hz52 : ((own_FF f48 f49) z2.toNatClampNeg) = z52) (hz54 : ((own_EE f48 f49) z2.toNatClampNeg) = z54) (hz58 : (((own_f25 z15 z3 z2) + (own_f25 z19 z4 z2)) + (own_f25 z23 z5 z2)) = z58) (hz62 : (((own_f26 z15 z3 z2) + (own_f26 z19 z4 z2)) + (own_f26 z23 z5 z2)) = z62) (hz64 : (own_f27 z52 z54 z58 z62 (p3 &&& (3 : Int32))) = z64) (hf69 : f69 = (if z27 = (0 : Int32) then [] else (own_psh z11 (0 : Int32) [] z6))) (hf70 : f70 = (if z27 = (0 : Int32) then [] else (own_psh z11 (1 : Int32) [] z6))) (hz73 : ((own_FF f69 f70) z2.toNatClampNeg) = z73) (hz75 : ((own_EE f69 f70) z2.toNatClampNeg) = z75) (hz79 : (own_f27 z73 z75 (own_f25 z27 z6 z2) (own_f26 z27 z6 z2) z7) = z79) (hc80 : ¬ (z64 = (0 : Int32))) (hc81 : z79 = (0 : Int32)) : (some (.int 0) : Option Value) = some (.int (own_f0 p0 p1 p2 p3 p4 p5)) := by
  subst hz79
  subst hz75
  subst hz73
  subst hf70
  subst hf69
  subst hz64
  subst hz62
  subst hz58
  subst hz54
  subst hz52
  subst hf49
  subst hf48
  subst hf43
  subst hf42
  subst hf37
  subst hf36
  subst hz27
  subst hz23
  subst hz19
  subst hz15
  subst hz11
  subst hz10
  subst hz9
  subst hz8
  subst hz7
  subst hz6
  subst hz5
  subst hz4
  subst hz3
  subst hz2
  subst hz1
  first | (simp only [own_f0, if_neg hc80, if_pos hc81]; done) | (simp only [own_f0, if_neg hc80, if_pos hc81]; rfl) | rfl
theorem own_lf_own_f0_3 {p0 : Int32} {p1 : Int32} {p2 : Int32} {p3 : Int32} {p4 : Int32} {p5 : Int32} {z1 : Int32} {z2 : Int32} {z3 : Int32} {z4 : Int32} {z5 : Int32} {z6 : Int32} {z7 : Int32} {z8 : Int32} {z9 : Int32} {z10 : Int32} {z11 : Int32} {z15 : Int32} {z19 : Int32} {z23 : Int32} {z27 : Int32} {f36 : List Int32} {f37 : List Int32} {f42 : List Int32} {f43 : List Int32} {f48 : List Int32} {f49 : List Int32} {z52 : Int32} {z54 : Int32} {z58 : Int32} {z62 : Int32} {z64 : Int32} {f69 : List Int32} {f70 : List Int32} {z73 : Int32} {z75 : Int32} {z79 : Int32} (hz1 : ((1 : Int32) + (p5 &&& (3 : Int32))) = z1) (hz2 : ((own_iushr p5 (2 : Int32)) % z1) = z2) (hz3 : ((p0 &&& (2147483647 : Int32)) % z1) = z3) (hz4 : ((p1 &&& (2147483647 : Int32)) % z1) = z4) (hz5 : ((p2 &&& (2147483647 : Int32)) % z1) = z5) (hz6 : ((own_iushr p1 (16 : Int32)) % z1) = z6) (hz7 : ((own_iushr p3 (2 : Int32)) &&& (1 : Int32)) = z7) (hz8 : ((own_iushr p3 (3 : Int32)) &&& (1 : Int32)) = z8) (hz9 : ((own_iushr p3 (4 : Int32)) &&& (1 : Int32)) = z9) (hz10 : ((own_iushr p3 (5 : Int32)) &&& (1 : Int32)) = z10) (hz11 : ((own_iushr p3 (6 : Int32)) &&& (1 : Int32)) = z11) (hz15 : (if (0 : Int32) < (p3 &&& (3 : Int32)) then (1 : Int32) else (0 : Int32)) = z15) (hz19 : (if (1 : Int32) < (p3 &&& (3 : Int32)) then (1 : Int32) else (0 : Int32)) = z19) (hz23 : (if (2 : Int32) < (p3 &&& (3 : Int32)) then (1 : Int32) else (0 : Int32)) = z23) (hz27 : (if (0 : Int32) < z7 then (1 : Int32) else (0 : Int32)) = z27) (hf36 : f36 = (if z15 = (0 : Int32) then [] else (own_psh z8 (0 : Int32) [] z3))) (hf37 : f37 = (if z15 = (0 : Int32) then [] else (own_psh z8 (1 : Int32) [] z3))) (hf42 : f42 = (if z19 = (0 : Int32) then f36 else (own_psh z9 (0 : Int32) f36 z4))) (hf43 : f43 = (if z19 = (0 : Int32) then f37 else (own_psh z9 (1 : Int32) f37 z4))) (hf48 : f48 = (if z23 = (0 : Int32) then f42 else (own_psh z10 (0 : Int32) f42 z5))) (hf49 : f49 = (if z23 = (0 : Int32) then f43 else (own_psh z10 (1 : Int32) f43 z5))) (hz52 : ((own_FF f48 f49) z2.toNatClampNeg) = z52) (hz54 : ((own_EE f48 f49) z2.toNatClampNeg) = z54) (hz58 : (((own_f25 z15 z3 z2) + (own_f25 z19 z4 z2)) + (own_f25 z23 z5 z2)) = z58) (hz62 : (((own_f26 z15 z3 z2) + (own_f26 z19 z4 z2)) + (own_f26 z23 z5 z2)) = z62) (hz64 : (own_f27 z52 z54 z58 z62 (p3 &&& (3 : Int32))) = z64) (hf69 : f69 = (if z27 = (0 : Int32) then [] else (own_psh z11 (0 : Int32) [] z6))) (hf70 : f70 = (if z27 = (0 : Int32) then [] else (own_psh z11 (1 : Int32) [] z6))) (hz73 : ((own_FF f69 f70) z2.toNatClampNeg) = z73) (hz75 : ((own_EE f69 f70) z2.toNatClampNeg) = z75) (hz79 : (own_f27 z73 z75 (own_f25 z27 z6 z2) (own_f26 z27 z6 z2) z7) = z79) (hc80 : ¬ (z64 = (0 : Int32))) (hc81 : ¬ (z79 = (0 : Int32))) : (some (.int 1) : Option Value) = some (.int (own_f0 p0 p1 p2 p3 p4 p5)) := by
  subst hz79
  subst hz75
  subst hz73
  subst hf70
  subst hf69
  subst hz64
  subst hz62
  subst hz58
  subst hz54
  subst hz52
  subst hf49
  subst hf48
  subst hf43
  subst hf42
  subst hf37
  subst hf36
  subst hz27
  subst hz23
  subst hz19
  subst hz15
  subst hz11
  subst hz10
  subst hz9
  subst hz8
  subst hz7
  subst hz6
  subst hz5
  subst hz4
  subst hz3
  subst hz2
  subst hz1
  first | (simp only [own_f0, if_neg hc80, if_neg hc81]; done) | (simp only [own_f0, if_neg hc80, if_neg hc81]; rfl) | rfl
set_option maxRecDepth 65536 in
set_option maxHeartbeats 40000000 in
theorem rm0 (l : Launch) (Z : State) (a0 : Array Value) (hw : oH Z a0) (ws : List Jvm.Cond) (p0 : Int32) (p1 : Int32) (p2 : Int32) (p3 : Int32) (p4 : Int32) (p5 : Int32) (h0 : Heap) (n0 : Nat) (Z0 : n0 ≤ h0.size) :
    MetFree l x (head1 (Jvm.Cond.code x code maxLocals ret :: ws) room_1) (fun a U => a = #[(.int p0), (.int p1), (.int p2), (.int p3), (.int p4), (.int p5)] ∧ Z.Warmed39 U.vm ∧ U.heap = h0) (fun _ _ _ _ _ => True) (fun _ U o U' => ∃ v L, o = .returned v ∧ own_QL (some (.int (own_f0 p0 p1 p2 p3 p4 p5))) n0 v U'.heap L ∧ CHr Z own_EL U.vm U.heap U'.vm U'.heap ∧ ReturnedEndW U o U' L 56 1472) := by
 refine MetFree.of_bodySF (plainFor_of_name pn_0) hisR ?_
 intro p e s m args below meth c s₁ Bd hml0 hP hK
 obtain ⟨rfl, hZ, hh⟩ := hP
 have hx := Bd.exec
 have hby := Bd.bytes
 have hml : c.maxLocals = 33 := hml0
 have hown : s.vm.findClass oC7 = some m.cls := findClass_of_methodNamed Bd.named
 have hnm := (name_of_methodNamed Bd.named Bd.method).1
 have hlk : meth.locks = false := BodyLoose.notSynchronized Bd
 have X0 : Stand p l e room_1 s m #[(.int p0), (.int p1), (.int p2), (.int p3), (.int p4), (.int p5)] below meth c s₁ [] 0 0 := Stand.of_body Bd
 have e0 : s₁.heap = h0 := by rw [← hh, Bd.state]; rfl
 have N0 := Fr.nil n0
 show own_FinW Z own_EL p.tables e below s (own_QL (some (.int (own_f0 p0 p1 p2 p3 p4 p5))) n0) 56 1472 (s₁.setTop (entryFrame m #[(.int p0), (.int p1), (.int p2), (.int p3), (.int p4), (.int p5)] maxLocals))
 rw [ef_0]
 obtain ⟨s00, es00⟩ : ∃ z : State, z = s := ⟨s, rfl⟩
 rw [← es00]
 have hS0 : own_Wb s00 s 0 := by rw [es00]; exact own_Wb.start s
 have hk0 : 0 ≤ h0.size := Nat.zero_le _
 show oG (s₁.setTop (mkF m 0 #[oI p0, oI p1, oI p2, oI p3, oI p4, oI p5, oU, oU, oU, oU, oU, oU, oU, oU, oU, oU, oU, oU, oU, oU, oU, oU, oU, oU, oU, oU, oU, oU, oU, oU, oU, oU, oU] []))
 refine own_goW (fun _ k => XS.iconst X0.here hx rfl (hb hby at_0) (XS.iload X0.here hx rfl (hb hby at_1) rfl (XS.iconst X0.here hx rfl (hb hby at_3) (XS.iand X0.here hx rfl (hb hby at_4) rfl (XS.iadd X0.here hx rfl (hb hby at_5) rfl (XS.istore X0.here hx rfl (hb hby at_6) rfl (l' := #[oI p0, oI p1, oI p2, oI p3, oI p4, oI p5, .val (.int ((1 : Int32) + (p5 &&& (3 : Int32)))), oU, oU, oU, oU, oU, oU, oU, oU, oU, oU, oU, oU, oU, oU, oU, oU, oU, oU, oU, oU, oU, oU, oU, oU, oU, oU]) rfl k)))))) ?_
 show oG (s₁.setTop (mkF m 8 #[oI p0, oI p1, oI p2, oI p3, oI p4, oI p5, .val (.int ((1 : Int32) + (p5 &&& (3 : Int32)))), oU, oU, oU, oU, oU, oU, oU, oU, oU, oU, oU, oU, oU, oU, oU, oU, oU, oU, oU, oU, oU, oU, oU, oU, oU, oU] []))
 generalize hz1 : ((1 : Int32) + (p5 &&& (3 : Int32))) = z1
 show oG (s₁.setTop (mkF m 8 #[oI p0, oI p1, oI p2, oI p3, oI p4, oI p5, oI z1, oU, oU, oU, oU, oU, oU, oU, oU, oU, oU, oU, oU, oU, oU, oU, oU, oU, oU, oU, oU, oU, oU, oU, oU, oU, oU] []))
 refine own_goW (fun _ k => XS.iload X0.here hx rfl (hb hby at_8) rfl (XS.iconst X0.here hx rfl (hb hby at_10) (XS.iushr X0.here hx rfl (hb hby at_11) rfl k))) ?_
 show oG (s₁.setTop (mkF m 12 #[oI p0, oI p1, oI p2, oI p3, oI p4, oI p5, oI z1, oU, oU, oU, oU, oU, oU, oU, oU, oU, oU, oU, oU, oU, oU, oU, oU, oU, oU, oU, oU, oU, oU, oU, oU, oU, oU] [(.int (own_iushr p5 (2 : Int32)))]))
 refine own_goW (fun _ k => XS.iload X0.here hx rfl (hb hby at_12) rfl (own_irem X0.here hx rfl (hb hby at_14) rfl (by rw [← hz1]; exact own_nz1 _) (XS.istore X0.here hx rfl (hb hby at_15) rfl (l' := #[oI p0, oI p1, oI p2, oI p3, oI p4, oI p5, oI z1, .val (.int ((own_iushr p5 (2 : Int32)) % z1)), oU, oU, oU, oU, oU, oU, oU, oU, oU, oU, oU, oU, oU, oU, oU, oU, oU, oU, oU, oU, oU, oU, oU, oU, oU]) rfl k))) ?_
 show oG (s₁.setTop (mkF m 17 #[oI p0, oI p1, oI p2, oI p3, oI p4, oI p5, oI z1, .val (.int ((own_iushr p5 (2 : Int32)) % z1)), oU, oU, oU, oU, oU, oU, oU, oU, oU, oU, oU, oU, oU, oU, oU, oU, oU, oU, oU, oU, oU, oU, oU, oU, oU] []))
 generalize hz2 : ((own_iushr p5 (2 : Int32)) % z1) = z2
 show oG (s₁.setTop (mkF m 17 #[oI p0, oI p1, oI p2, oI p3, oI p4, oI p5, oI z1, oI z2, oU, oU, oU, oU, oU, oU, oU, oU, oU, oU, oU, oU, oU, oU, oU, oU, oU, oU, oU, oU, oU, oU, oU, oU, oU] []))
 refine own_goW (fun _ k => XS.iloadN X0.here hx rfl (hb hby at_17) rfl k) ?_
 refine own_goW (fun _ k => X0.ldcInt hx hown (mvT hZ (oW hw 0 rfl)) (g := (mkF m 18 #[oI p0, oI p1, oI p2, oI p3, oI p4, oI p5, oI z1, oI z2, oU, oU, oU, oU, oU, oU, oU, oU, oU, oU, oU, oU, oU, oU, oU, oU, oU, oU, oU, oU, oU, oU, oU, oU, oU] [(.int p0)])) rfl (hb hby at_18) _ k) ?_
 refine own_goW (fun _ k => XS.iand X0.here hx rfl (hb hby at_20) rfl (XS.iload X0.here hx rfl (hb hby at_21) rfl (own_irem X0.here hx rfl (hb hby at_23) rfl (by rw [← hz1]; exact own_nz1 _) (XS.istore X0.here hx rfl (hb hby at_24) rfl (l' := #[oI p0, oI p1, oI p2, oI p3, oI p4, oI p5, oI z1, oI z2, .val (.int ((p0 &&& (2147483647 : Int32)) % z1)), oU, oU, oU, oU, oU, oU, oU, oU, oU, oU, oU, oU, oU, oU, oU, oU, oU, oU, oU, oU, oU, oU, oU, oU]) rfl k)))) ?_
 show oG (s₁.setTop (mkF m 26 #[oI p0, oI p1, oI p2, oI p3, oI p4, oI p5, oI z1, oI z2, .val (.int ((p0 &&& (2147483647 : Int32)) % z1)), oU, oU, oU, oU, oU, oU, oU, oU, oU, oU, oU, oU, oU, oU, oU, oU, oU, oU, oU, oU, oU, oU, oU, oU] []))
 generalize hz3 : ((p0 &&& (2147483647 : Int32)) % z1) = z3
 show oG (s₁.setTop (mkF m 26 #[oI p0, oI p1, oI p2, oI p3, oI p4, oI p5, oI z1, oI z2, oI z3, oU, oU, oU, oU, oU, oU, oU, oU, oU, oU, oU, oU, oU, oU, oU, oU, oU, oU, oU, oU, oU, oU, oU, oU] []))
 refine own_goW (fun _ k => XS.iloadN X0.here hx rfl (hb hby at_26) rfl k) ?_
 refine own_goW (fun _ k => X0.ldcInt hx hown (mvT hZ (oW hw 0 rfl)) (g := (mkF m 27 #[oI p0, oI p1, oI p2, oI p3, oI p4, oI p5, oI z1, oI z2, oI z3, oU, oU, oU, oU, oU, oU, oU, oU, oU, oU, oU, oU, oU, oU, oU, oU, oU, oU, oU, oU, oU, oU, oU, oU] [(.int p1)])) rfl (hb hby at_27) _ k) ?_
 refine own_goW (fun _ k => XS.iand X0.here hx rfl (hb hby at_29) rfl (XS.iload X0.here hx rfl (hb hby at_30) rfl (own_irem X0.here hx rfl (hb hby at_32) rfl (by rw [← hz1]; exact own_nz1 _) (XS.istore X0.here hx rfl (hb hby at_33) rfl (l' := #[oI p0, oI p1, oI p2, oI p3, oI p4, oI p5, oI z1, oI z2, oI z3, .val (.int ((p1 &&& (2147483647 : Int32)) % z1)), oU, oU, oU, oU, oU, oU, oU, oU, oU, oU, oU, oU, oU, oU, oU, oU, oU, oU, oU, oU, oU, oU, oU]) rfl k)))) ?_
 show oG (s₁.setTop (mkF m 35 #[oI p0, oI p1, oI p2, oI p3, oI p4, oI p5, oI z1, oI z2, oI z3, .val (.int ((p1 &&& (2147483647 : Int32)) % z1)), oU, oU, oU, oU, oU, oU, oU, oU, oU, oU, oU, oU, oU, oU, oU, oU, oU, oU, oU, oU, oU, oU, oU] []))
 generalize hz4 : ((p1 &&& (2147483647 : Int32)) % z1) = z4
 show oG (s₁.setTop (mkF m 35 #[oI p0, oI p1, oI p2, oI p3, oI p4, oI p5, oI z1, oI z2, oI z3, oI z4, oU, oU, oU, oU, oU, oU, oU, oU, oU, oU, oU, oU, oU, oU, oU, oU, oU, oU, oU, oU, oU, oU, oU] []))
 refine own_goW (fun _ k => XS.iloadN X0.here hx rfl (hb hby at_35) rfl k) ?_
 refine own_goW (fun _ k => X0.ldcInt hx hown (mvT hZ (oW hw 0 rfl)) (g := (mkF m 36 #[oI p0, oI p1, oI p2, oI p3, oI p4, oI p5, oI z1, oI z2, oI z3, oI z4, oU, oU, oU, oU, oU, oU, oU, oU, oU, oU, oU, oU, oU, oU, oU, oU, oU, oU, oU, oU, oU, oU, oU] [(.int p2)])) rfl (hb hby at_36) _ k) ?_
 refine own_goW (fun _ k => XS.iand X0.here hx rfl (hb hby at_38) rfl (XS.iload X0.here hx rfl (hb hby at_39) rfl (own_irem X0.here hx rfl (hb hby at_41) rfl (by rw [← hz1]; exact own_nz1 _) (XS.istore X0.here hx rfl (hb hby at_42) rfl (l' := #[oI p0, oI p1, oI p2, oI p3, oI p4, oI p5, oI z1, oI z2, oI z3, oI z4, .val (.int ((p2 &&& (2147483647 : Int32)) % z1)), oU, oU, oU, oU, oU, oU, oU, oU, oU, oU, oU, oU, oU, oU, oU, oU, oU, oU, oU, oU, oU, oU]) rfl k)))) ?_
 show oG (s₁.setTop (mkF m 44 #[oI p0, oI p1, oI p2, oI p3, oI p4, oI p5, oI z1, oI z2, oI z3, oI z4, .val (.int ((p2 &&& (2147483647 : Int32)) % z1)), oU, oU, oU, oU, oU, oU, oU, oU, oU, oU, oU, oU, oU, oU, oU, oU, oU, oU, oU, oU, oU, oU] []))
 generalize hz5 : ((p2 &&& (2147483647 : Int32)) % z1) = z5
 show oG (s₁.setTop (mkF m 44 #[oI p0, oI p1, oI p2, oI p3, oI p4, oI p5, oI z1, oI z2, oI z3, oI z4, oI z5, oU, oU, oU, oU, oU, oU, oU, oU, oU, oU, oU, oU, oU, oU, oU, oU, oU, oU, oU, oU, oU, oU] []))
 refine own_goW (fun _ k => XS.iloadN X0.here hx rfl (hb hby at_44) rfl (XS.bipush X0.here hx rfl (hb hby at_45) (XS.iushr X0.here hx rfl (hb hby at_47) rfl k))) ?_
 show oG (s₁.setTop (mkF m 48 #[oI p0, oI p1, oI p2, oI p3, oI p4, oI p5, oI z1, oI z2, oI z3, oI z4, oI z5, oU, oU, oU, oU, oU, oU, oU, oU, oU, oU, oU, oU, oU, oU, oU, oU, oU, oU, oU, oU, oU, oU] [(.int (own_iushr p1 (16 : Int32)))]))
 refine own_goW (fun _ k => XS.iload X0.here hx rfl (hb hby at_48) rfl (own_irem X0.here hx rfl (hb hby at_50) rfl (by rw [← hz1]; exact own_nz1 _) (XS.istore X0.here hx rfl (hb hby at_51) rfl (l' := #[oI p0, oI p1, oI p2, oI p3, oI p4, oI p5, oI z1, oI z2, oI z3, oI z4, oI z5, .val (.int ((own_iushr p1 (16 : Int32)) % z1)), oU, oU, oU, oU, oU, oU, oU, oU, oU, oU, oU, oU, oU, oU, oU, oU, oU, oU, oU, oU, oU]) rfl k))) ?_
 show oG (s₁.setTop (mkF m 53 #[oI p0, oI p1, oI p2, oI p3, oI p4, oI p5, oI z1, oI z2, oI z3, oI z4, oI z5, .val (.int ((own_iushr p1 (16 : Int32)) % z1)), oU, oU, oU, oU, oU, oU, oU, oU, oU, oU, oU, oU, oU, oU, oU, oU, oU, oU, oU, oU, oU] []))
 generalize hz6 : ((own_iushr p1 (16 : Int32)) % z1) = z6
 show oG (s₁.setTop (mkF m 53 #[oI p0, oI p1, oI p2, oI p3, oI p4, oI p5, oI z1, oI z2, oI z3, oI z4, oI z5, oI z6, oU, oU, oU, oU, oU, oU, oU, oU, oU, oU, oU, oU, oU, oU, oU, oU, oU, oU, oU, oU, oU] []))
 refine own_goW (fun _ k => XS.iloadN X0.here hx rfl (hb hby at_53) rfl (XS.iconst X0.here hx rfl (hb hby at_54) (XS.iand X0.here hx rfl (hb hby at_55) rfl (XS.istore X0.here hx rfl (hb hby at_56) rfl (l' := #[oI p0, oI p1, oI p2, oI p3, oI p4, oI p5, oI z1, oI z2, oI z3, oI z4, oI z5, oI z6, .val (.int (p3 &&& (3 : Int32))), oU, oU, oU, oU, oU, oU, oU, oU, oU, oU, oU, oU, oU, oU, oU, oU, oU, oU, oU, oU]) rfl (XS.iloadN X0.here hx rfl (hb hby at_58) rfl (XS.iconst X0.here hx rfl (hb hby at_59) (XS.iushr X0.here hx rfl (hb hby at_60) rfl k))))))) ?_
 show oG (s₁.setTop (mkF m 61 #[oI p0, oI p1, oI p2, oI p3, oI p4, oI p5, oI z1, oI z2, oI z3, oI z4, oI z5, oI z6, .val (.int (p3 &&& (3 : Int32))), oU, oU, oU, oU, oU, oU, oU, oU, oU, oU, oU, oU, oU, oU, oU, oU, oU, oU, oU, oU] [(.int (own_iushr p3 (2 : Int32)))]))
 refine own_goW (fun _ k => XS.iconst X0.here hx rfl (hb hby at_61) (XS.iand X0.here hx rfl (hb hby at_62) rfl (XS.istore X0.here hx rfl (hb hby at_63) rfl (l' := #[oI p0, oI p1, oI p2, oI p3, oI p4, oI p5, oI z1, oI z2, oI z3, oI z4, oI z5, oI z6, .val (.int (p3 &&& (3 : Int32))), .val (.int ((own_iushr p3 (2 : Int32)) &&& (1 : Int32))), oU, oU, oU, oU, oU, oU, oU, oU, oU, oU, oU, oU, oU, oU, oU, oU, oU, oU, oU]) rfl k))) ?_
 show oG (s₁.setTop (mkF m 65 #[oI p0, oI p1, oI p2, oI p3, oI p4, oI p5, oI z1, oI z2, oI z3, oI z4, oI z5, oI z6, .val (.int (p3 &&& (3 : Int32))), .val (.int ((own_iushr p3 (2 : Int32)) &&& (1 : Int32))), oU, oU, oU, oU, oU, oU, oU, oU, oU, oU, oU, oU, oU, oU, oU, oU, oU, oU, oU] []))
 generalize hz7 : ((own_iushr p3 (2 : Int32)) &&& (1 : Int32)) = z7
 show oG (s₁.setTop (mkF m 65 #[oI p0, oI p1, oI p2, oI p3, oI p4, oI p5, oI z1, oI z2, oI z3, oI z4, oI z5, oI z6, .val (.int (p3 &&& (3 : Int32))), oI z7, oU, oU, oU, oU, oU, oU, oU, oU, oU, oU, oU, oU, oU, oU, oU, oU, oU, oU, oU] []))
 refine own_goW (fun _ k => XS.iloadN X0.here hx rfl (hb hby at_65) rfl (XS.iconst X0.here hx rfl (hb hby at_66) (XS.iushr X0.here hx rfl (hb hby at_67) rfl k))) ?_
 show oG (s₁.setTop (mkF m 68 #[oI p0, oI p1, oI p2, oI p3, oI p4, oI p5, oI z1, oI z2, oI z3, oI z4, oI z5, oI z6, .val (.int (p3 &&& (3 : Int32))), oI z7, oU, oU, oU, oU, oU, oU, oU, oU, oU, oU, oU, oU, oU, oU, oU, oU, oU, oU, oU] [(.int (own_iushr p3 (3 : Int32)))]))
 refine own_goW (fun _ k => XS.iconst X0.here hx rfl (hb hby at_68) (XS.iand X0.here hx rfl (hb hby at_69) rfl (XS.istore X0.here hx rfl (hb hby at_70) rfl (l' := #[oI p0, oI p1, oI p2, oI p3, oI p4, oI p5, oI z1, oI z2, oI z3, oI z4, oI z5, oI z6, .val (.int (p3 &&& (3 : Int32))), oI z7, .val (.int ((own_iushr p3 (3 : Int32)) &&& (1 : Int32))), oU, oU, oU, oU, oU, oU, oU, oU, oU, oU, oU, oU, oU, oU, oU, oU, oU, oU]) rfl k))) ?_
 show oG (s₁.setTop (mkF m 72 #[oI p0, oI p1, oI p2, oI p3, oI p4, oI p5, oI z1, oI z2, oI z3, oI z4, oI z5, oI z6, .val (.int (p3 &&& (3 : Int32))), oI z7, .val (.int ((own_iushr p3 (3 : Int32)) &&& (1 : Int32))), oU, oU, oU, oU, oU, oU, oU, oU, oU, oU, oU, oU, oU, oU, oU, oU, oU, oU] []))
 generalize hz8 : ((own_iushr p3 (3 : Int32)) &&& (1 : Int32)) = z8
 show oG (s₁.setTop (mkF m 72 #[oI p0, oI p1, oI p2, oI p3, oI p4, oI p5, oI z1, oI z2, oI z3, oI z4, oI z5, oI z6, .val (.int (p3 &&& (3 : Int32))), oI z7, oI z8, oU, oU, oU, oU, oU, oU, oU, oU, oU, oU, oU, oU, oU, oU, oU, oU, oU, oU] []))
 refine own_goW (fun _ k => XS.iloadN X0.here hx rfl (hb hby at_72) rfl (XS.iconst X0.here hx rfl (hb hby at_73) (XS.iushr X0.here hx rfl (hb hby at_74) rfl k))) ?_
 show oG (s₁.setTop (mkF m 75 #[oI p0, oI p1, oI p2, oI p3, oI p4, oI p5, oI z1, oI z2, oI z3, oI z4, oI z5, oI z6, .val (.int (p3 &&& (3 : Int32))), oI z7, oI z8, oU, oU, oU, oU, oU, oU, oU, oU, oU, oU, oU, oU, oU, oU, oU, oU, oU, oU] [(.int (own_iushr p3 (4 : Int32)))]))
 refine own_goW (fun _ k => XS.iconst X0.here hx rfl (hb hby at_75) (XS.iand X0.here hx rfl (hb hby at_76) rfl (XS.istore X0.here hx rfl (hb hby at_77) rfl (l' := #[oI p0, oI p1, oI p2, oI p3, oI p4, oI p5, oI z1, oI z2, oI z3, oI z4, oI z5, oI z6, .val (.int (p3 &&& (3 : Int32))), oI z7, oI z8, .val (.int ((own_iushr p3 (4 : Int32)) &&& (1 : Int32))), oU, oU, oU, oU, oU, oU, oU, oU, oU, oU, oU, oU, oU, oU, oU, oU, oU]) rfl k))) ?_
 show oG (s₁.setTop (mkF m 79 #[oI p0, oI p1, oI p2, oI p3, oI p4, oI p5, oI z1, oI z2, oI z3, oI z4, oI z5, oI z6, .val (.int (p3 &&& (3 : Int32))), oI z7, oI z8, .val (.int ((own_iushr p3 (4 : Int32)) &&& (1 : Int32))), oU, oU, oU, oU, oU, oU, oU, oU, oU, oU, oU, oU, oU, oU, oU, oU, oU] []))
 generalize hz9 : ((own_iushr p3 (4 : Int32)) &&& (1 : Int32)) = z9
 show oG (s₁.setTop (mkF m 79 #[oI p0, oI p1, oI p2, oI p3, oI p4, oI p5, oI z1, oI z2, oI z3, oI z4, oI z5, oI z6, .val (.int (p3 &&& (3 : Int32))), oI z7, oI z8, oI z9, oU, oU, oU, oU, oU, oU, oU, oU, oU, oU, oU, oU, oU, oU, oU, oU, oU] []))
 refine own_goW (fun _ k => XS.iloadN X0.here hx rfl (hb hby at_79) rfl (XS.iconst X0.here hx rfl (hb hby at_80) (XS.iushr X0.here hx rfl (hb hby at_81) rfl k))) ?_
 show oG (s₁.setTop (mkF m 82 #[oI p0, oI p1, oI p2, oI p3, oI p4, oI p5, oI z1, oI z2, oI z3, oI z4, oI z5, oI z6, .val (.int (p3 &&& (3 : Int32))), oI z7, oI z8, oI z9, oU, oU, oU, oU, oU, oU, oU, oU, oU, oU, oU, oU, oU, oU, oU, oU, oU] [(.int (own_iushr p3 (5 : Int32)))]))
 refine own_goW (fun _ k => XS.iconst X0.here hx rfl (hb hby at_82) (XS.iand X0.here hx rfl (hb hby at_83) rfl (XS.istore X0.here hx rfl (hb hby at_84) rfl (l' := #[oI p0, oI p1, oI p2, oI p3, oI p4, oI p5, oI z1, oI z2, oI z3, oI z4, oI z5, oI z6, .val (.int (p3 &&& (3 : Int32))), oI z7, oI z8, oI z9, .val (.int ((own_iushr p3 (5 : Int32)) &&& (1 : Int32))), oU, oU, oU, oU, oU, oU, oU, oU, oU, oU, oU, oU, oU, oU, oU, oU]) rfl k))) ?_
 show oG (s₁.setTop (mkF m 86 #[oI p0, oI p1, oI p2, oI p3, oI p4, oI p5, oI z1, oI z2, oI z3, oI z4, oI z5, oI z6, .val (.int (p3 &&& (3 : Int32))), oI z7, oI z8, oI z9, .val (.int ((own_iushr p3 (5 : Int32)) &&& (1 : Int32))), oU, oU, oU, oU, oU, oU, oU, oU, oU, oU, oU, oU, oU, oU, oU, oU] []))
 generalize hz10 : ((own_iushr p3 (5 : Int32)) &&& (1 : Int32)) = z10
 show oG (s₁.setTop (mkF m 86 #[oI p0, oI p1, oI p2, oI p3, oI p4, oI p5, oI z1, oI z2, oI z3, oI z4, oI z5, oI z6, .val (.int (p3 &&& (3 : Int32))), oI z7, oI z8, oI z9, oI z10, oU, oU, oU, oU, oU, oU, oU, oU, oU, oU, oU, oU, oU, oU, oU, oU] []))
 refine own_goW (fun _ k => XS.iloadN X0.here hx rfl (hb hby at_86) rfl (XS.bipush X0.here hx rfl (hb hby at_87) (XS.iushr X0.here hx rfl (hb hby at_89) rfl k))) ?_
 show oG (s₁.setTop (mkF m 90 #[oI p0, oI p1, oI p2, oI p3, oI p4, oI p5, oI z1, oI z2, oI z3, oI z4, oI z5, oI z6, .val (.int (p3 &&& (3 : Int32))), oI z7, oI z8, oI z9, oI z10, oU, oU, oU, oU, oU, oU, oU, oU, oU, oU, oU, oU, oU, oU, oU, oU] [(.int (own_iushr p3 (6 : Int32)))]))
 refine own_goW (fun _ k => XS.iconst X0.here hx rfl (hb hby at_90) (XS.iand X0.here hx rfl (hb hby at_91) rfl (XS.istore X0.here hx rfl (hb hby at_92) rfl (l' := #[oI p0, oI p1, oI p2, oI p3, oI p4, oI p5, oI z1, oI z2, oI z3, oI z4, oI z5, oI z6, .val (.int (p3 &&& (3 : Int32))), oI z7, oI z8, oI z9, oI z10, .val (.int ((own_iushr p3 (6 : Int32)) &&& (1 : Int32))), oU, oU, oU, oU, oU, oU, oU, oU, oU, oU, oU, oU, oU, oU, oU]) rfl k))) ?_
 show oG (s₁.setTop (mkF m 94 #[oI p0, oI p1, oI p2, oI p3, oI p4, oI p5, oI z1, oI z2, oI z3, oI z4, oI z5, oI z6, .val (.int (p3 &&& (3 : Int32))), oI z7, oI z8, oI z9, oI z10, .val (.int ((own_iushr p3 (6 : Int32)) &&& (1 : Int32))), oU, oU, oU, oU, oU, oU, oU, oU, oU, oU, oU, oU, oU, oU, oU] []))
 generalize hz11 : ((own_iushr p3 (6 : Int32)) &&& (1 : Int32)) = z11
 show oG (s₁.setTop (mkF m 94 #[oI p0, oI p1, oI p2, oI p3, oI p4, oI p5, oI z1, oI z2, oI z3, oI z4, oI z5, oI z6, .val (.int (p3 &&& (3 : Int32))), oI z7, oI z8, oI z9, oI z10, oI z11, oU, oU, oU, oU, oU, oU, oU, oU, oU, oU, oU, oU, oU, oU, oU] []))
 refine own_goW (fun _ k => XS.iload X0.here hx rfl (hb hby at_94) rfl k) ?_
 have hk13 : ∀ (T' : State) (L' : List Loc), Stand p l e room_1 s m #[(.int p0), (.int p1), (.int p2), (.int p3), (.int p4), (.int p5)] below meth c T' L' 0 0 → Fr n0 L' → T'.heap = h0 → own_FinW Z own_EL p.tables e below s00 (own_QL (some (.int (own_f0 p0 p1 p2 p3 p4 p5))) n0) 56 1472 (T'.setTop (mkF m 104 #[oI p0, oI p1, oI p2, oI p3, oI p4, oI p5, oI z1, oI z2, oI z3, oI z4, oI z5, oI z6, .val (.int (p3 &&& (3 : Int32))), oI z7, oI z8, oI z9, oI z10, oI z11, oU, oU, oU, oU, oU, oU, oU, oU, oU, oU, oU, oU, oU, oU, oU] [(.int (if (0 : Int32) < (p3 &&& (3 : Int32)) then (1 : Int32) else (0 : Int32)))])) := by
  intro T14 L14 X14 N14 e14
  generalize hz15 : (if (0 : Int32) < (p3 &&& (3 : Int32)) then (1 : Int32) else (0 : Int32)) = z15
  show oG (T14.setTop (mkF m 104 #[oI p0, oI p1, oI p2, oI p3, oI p4, oI p5, oI z1, oI z2, oI z3, oI z4, oI z5, oI z6, .val (.int (p3 &&& (3 : Int32))), oI z7, oI z8, oI z9, oI z10, oI z11, oU, oU, oU, oU, oU, oU, oU, oU, oU, oU, oU, oU, oU, oU, oU] [(.int z15)]))
  refine own_goW (fun _ k => XS.istore X14.here hx rfl (hb hby at_104) rfl (l' := #[oI p0, oI p1, oI p2, oI p3, oI p4, oI p5, oI z1, oI z2, oI z3, oI z4, oI z5, oI z6, .val (.int (p3 &&& (3 : Int32))), oI z7, oI z8, oI z9, oI z10, oI z11, oI z15, oU, oU, oU, oU, oU, oU, oU, oU, oU, oU, oU, oU, oU, oU]) rfl (XS.iload X14.here hx rfl (hb hby at_106) rfl (XS.iconst X14.here hx rfl (hb hby at_108) k))) ?_
  have hk17 : ∀ (T' : State) (L' : List Loc), Stand p l e room_1 s m #[(.int p0), (.int p1), (.int p2), (.int p3), (.int p4), (.int p5)] below meth c T' L' 0 0 → Fr n0 L' → T'.heap = h0 → own_FinW Z own_EL p.tables e below s00 (own_QL (some (.int (own_f0 p0 p1 p2 p3 p4 p5))) n0) 56 1472 (T'.setTop (mkF m 117 #[oI p0, oI p1, oI p2, oI p3, oI p4, oI p5, oI z1, oI z2, oI z3, oI z4, oI z5, oI z6, .val (.int (p3 &&& (3 : Int32))), oI z7, oI z8, oI z9, oI z10, oI z11, oI z15, oU, oU, oU, oU, oU, oU, oU, oU, oU, oU, oU, oU, oU, oU] [(.int (if (1 : Int32) < (p3 &&& (3 : Int32)) then (1 : Int32) else (0 : Int32)))])) := by
   intro T18 L18 X18 N18 e18
   generalize hz19 : (if (1 : Int32) < (p3 &&& (3 : Int32)) then (1 : Int32) else (0 : Int32)) = z19
   show oG (T18.setTop (mkF m 117 #[oI p0, oI p1, oI p2, oI p3, oI p4, oI p5, oI z1, oI z2, oI z3, oI z4, oI z5, oI z6, .val (.int (p3 &&& (3 : Int32))), oI z7, oI z8, oI z9, oI z10, oI z11, oI z15, oU, oU, oU, oU, oU, oU, oU, oU, oU, oU, oU, oU, oU, oU] [(.int z19)]))
   refine own_goW (fun _ k => XS.istore X18.here hx rfl (hb hby at_117) rfl (l' := #[oI p0, oI p1, oI p2, oI p3, oI p4, oI p5, oI z1, oI z2, oI z3, oI z4, oI z5, oI z6, .val (.int (p3 &&& (3 : Int32))), oI z7, oI z8, oI z9, oI z10, oI z11, oI z15, oI z19, oU, oU, oU, oU, oU, oU, oU, oU, oU, oU, oU, oU, oU]) rfl (XS.iload X18.here hx rfl (hb hby at_119) rfl (XS.iconst X18.here hx rfl (hb hby at_121) k))) ?_
   have hk21 : ∀ (T' : State) (L' : List Loc), Stand p l e room_1 s m #[(.int p0), (.int p1), (.int p2), (.int p3), (.int p4), (.int p5)] below meth c T' L' 0 0 → Fr n0 L' → T'.heap = h0 → own_FinW Z own_EL p.tables e below s00 (own_QL (some (.int (own_f0 p0 p1 p2 p3 p4 p5))) n0) 56 1472 (T'.setTop (mkF m 130 #[oI p0, oI p1, oI p2, oI p3, oI p4, oI p5, oI z1, oI z2, oI z3, oI z4, oI z5, oI z6, .val (.int (p3 &&& (3 : Int32))), oI z7, oI z8, oI z9, oI z10, oI z11, oI z15, oI z19, oU, oU, oU, oU, oU, oU, oU, oU, oU, oU, oU, oU, oU] [(.int (if (2 : Int32) < (p3 &&& (3 : Int32)) then (1 : Int32) else (0 : Int32)))])) := by
    intro T22 L22 X22 N22 e22
    generalize hz23 : (if (2 : Int32) < (p3 &&& (3 : Int32)) then (1 : Int32) else (0 : Int32)) = z23
    show oG (T22.setTop (mkF m 130 #[oI p0, oI p1, oI p2, oI p3, oI p4, oI p5, oI z1, oI z2, oI z3, oI z4, oI z5, oI z6, .val (.int (p3 &&& (3 : Int32))), oI z7, oI z8, oI z9, oI z10, oI z11, oI z15, oI z19, oU, oU, oU, oU, oU, oU, oU, oU, oU, oU, oU, oU, oU] [(.int z23)]))
    refine own_goW (fun _ k => XS.istore X22.here hx rfl (hb hby at_130) rfl (l' := #[oI p0, oI p1, oI p2, oI p3, oI p4, oI p5, oI z1, oI z2, oI z3, oI z4, oI z5, oI z6, .val (.int (p3 &&& (3 : Int32))), oI z7, oI z8, oI z9, oI z10, oI z11, oI z15, oI z19, oI z23, oU, oU, oU, oU, oU, oU, oU, oU, oU, oU, oU, oU]) rfl (XS.iload X22.here hx rfl (hb hby at_132) rfl k)) ?_
    have hk25 : ∀ (T' : State) (L' : List Loc), Stand p l e room_1 s m #[(.int p0), (.int p1), (.int p2), (.int p3), (.int p4), (.int p5)] below meth c T' L' 0 0 → Fr n0 L' → T'.heap = h0 → own_FinW Z own_EL p.tables e below s00 (own_QL (some (.int (own_f0 p0 p1 p2 p3 p4 p5))) n0) 56 1472 (T'.setTop (mkF m 142 #[oI p0, oI p1, oI p2, oI p3, oI p4, oI p5, oI z1, oI z2, oI z3, oI z4, oI z5, oI z6, .val (.int (p3 &&& (3 : Int32))), oI z7, oI z8, oI z9, oI z10, oI z11, oI z15, oI z19, oI z23, oU, oU, oU, oU, oU, oU, oU, oU, oU, oU, oU, oU] [(.int (if (0 : Int32) < z7 then (1 : Int32) else (0 : Int32)))])) := by
     intro T26 L26 X26 N26 e26
     generalize hz27 : (if (0 : Int32) < z7 then (1 : Int32) else (0 : Int32)) = z27
     show oG (T26.setTop (mkF m 142 #[oI p0, oI p1, oI p2, oI p3, oI p4, oI p5, oI z1, oI z2, oI z3, oI z4, oI z5, oI z6, .val (.int (p3 &&& (3 : Int32))), oI z7, oI z8, oI z9, oI z10, oI z11, oI z15, oI z19, oI z23, oU, oU, oU, oU, oU, oU, oU, oU, oU, oU, oU, oU] [(.int z27)]))
     refine own_goW (fun _ k => XS.istore X26.here hx rfl (hb hby at_142) rfl (l' := #[oI p0, oI p1, oI p2, oI p3, oI p4, oI p5, oI z1, oI z2, oI z3, oI z4, oI z5, oI z6, .val (.int (p3 &&& (3 : Int32))), oI z7, oI z8, oI z9, oI z10, oI z11, oI z15, oI z19, oI z23, oI z27, oU, oU, oU, oU, oU, oU, oU, oU, oU, oU, oU]) rfl k) ?_
     obtain ⟨T28, h28, X28, e28, E28, A28, D28, -, st28⟩ := newO X26 hx hZ hown (oW hw 1 rfl) (oW hw 2 rfl) (oW hw 3 rfl) e26 (g := (mkF m 144 #[oI p0, oI p1, oI p2, oI p3, oI p4, oI p5, oI z1, oI z2, oI z3, oI z4, oI z5, oI z6, .val (.int (p3 &&& (3 : Int32))), oI z7, oI z8, oI z9, oI z10, oI z11, oI z15, oI z19, oI z23, oI z27, oU, oU, oU, oU, oU, oU, oU, oU, oU, oU, oU] [])) rfl (hb hby at_144) (by decide) (by decide)
     obtain ⟨b28, g28⟩ : ∃ z, z = h0.size := ⟨_, rfl⟩
     rw [← g28] at A28 D28 st28
     have ge_b28 : n0 ≤ b28 := Nat.le_trans Z0 (Nat.le_of_eq g28.symm)
     have Z28 : n0 ≤ h28.size := Nat.le_trans Z0 E28.1
     have E_b28_28 : Exa Z h28 b28 oC0 := A28
     have F_receivers_b28_28 : Fld Z h28 b28 oC0 "receivers" "I" (.int 0) := D28 (Or.inr (oW hw 19 rfl)) (ty := .int) (by decide)
     have F_senderKind_b28_28 : Fld Z h28 b28 oC0 "senderKind" oC11 .null := D28 (Or.inr (oW hw 21 rfl)) (ty := (.object oC12)) (by decide)
     have F_outboxes_b28_28 : Fld Z h28 b28 oC0 "outboxes" oC4 .null := D28 (Or.inr (oW hw 25 rfl)) (ty := (.array (.object oC2))) (by decide)
     have F_recipients_b28_28 : Fld Z h28 b28 oC0 "recipients" oC6 .null := D28 (Or.inr (oW hw 58 rfl)) (ty := (.object oC1)) (by decide)
     have F_delivered_b28_28 : Fld Z h28 b28 oC0 "delivered" "I" (.int 0) := D28 (Or.inl (oW hw 116 rfl)) (ty := .int) (by decide)
     have F_senders_b28_28 : Fld Z h28 b28 oC0 "senders" "[I" .null := D28 (Or.inl (oW hw 118 rfl)) (ty := (.array .int)) (by decide)
     have F_messages_b28_28 : Fld Z h28 b28 oC0 "messages" "[J" .null := D28 (Or.inl (oW hw 120 rfl)) (ty := (.array .long)) (by decide)
     have F_first_b28_28 : Fld Z h28 b28 oC0 "first" "[I" .null := D28 (Or.inl (oW hw 122 rfl)) (ty := (.array .int)) (by decide)
     have F_end_b28_28 : Fld Z h28 b28 oC0 "end" "[I" .null := D28 (Or.inl (oW hw 124 rfl)) (ty := (.array .int)) (by decide)
     refine own_goW (fun tg k => st28 tg k) ?_
     refine own_goW (fun _ k => XS.dup X28.here hx rfl (hb hby at_147) rfl rfl (XS.iload X28.here hx rfl (hb hby at_148) rfl (XS.iconst X28.here hx rfl (hb hby at_150) k))) ?_
     obtain ⟨a29, T29, h29, k29, s, X29, e29, E29, hS29, hk29, hZ, hown, st29⟩ := own_ldcO X28 hx hZ hown (oW hw 4 rfl) (own_wS hw) e28 hS0 (Nat.zero_le _) (g := (mkF m 151 #[oI p0, oI p1, oI p2, oI p3, oI p4, oI p5, oI z1, oI z2, oI z3, oI z4, oI z5, oI z6, .val (.int (p3 &&& (3 : Int32))), oI z7, oI z8, oI z9, oI z10, oI z11, oI z15, oI z19, oI z23, oI z27, oU, oU, oU, oU, oU, oU, oU, oU, oU, oU, oU] [(.int 2), (.int z1), (.ref b28), (.ref b28)])) rfl (hb hby at_151) (n := 32) (by decide) (by decide) (by decide) (by decide)
     have E_b28_29 := E_b28_28.ext E29
     have F_receivers_b28_29 := F_receivers_b28_28.ext E29
     have F_senderKind_b28_29 := F_senderKind_b28_28.ext E29
     have F_outboxes_b28_29 := F_outboxes_b28_28.ext E29
     have F_recipients_b28_29 := F_recipients_b28_28.ext E29
     have F_delivered_b28_29 := F_delivered_b28_28.ext E29
     have F_senders_b28_29 := F_senders_b28_28.ext E29
     have F_messages_b28_29 := F_messages_b28_28.ext E29
     have F_first_b28_29 := F_first_b28_28.ext E29
     have F_end_b28_29 := F_end_b28_28.ext E29
     have Z29 : n0 ≤ h29.size := Nat.le_trans Z28 E29.1
     refine own_goW (fun tg k => st29 tg k) ?_
     show oG (T29.setTop (mkF m 153 #[oI p0, oI p1, oI p2, oI p3, oI p4, oI p5, oI z1, oI z2, oI z3, oI z4, oI z5, oI z6, .val (.int (p3 &&& (3 : Int32))), oI z7, oI z8, oI z9, oI z10, oI z11, oI z15, oI z19, oI z23, oI z27, oU, oU, oU, oU, oU, oU, oU, oU, oU, oU, oU] [(.ref a29), (.int 2), (.int z1), (.ref b28), (.ref b28)]))
     obtain ⟨_, _, ⟨T30, L30, k30, n30⟩, -, X30, ⟨Lc30, hQ30, l30, y30, z30⟩, st30⟩ := X29.specialBack hx (y := oM27) rfl hown (mvT hZ (oW hw 12 rfl)) (mvT hZ (oW hw 13 rfl)) (mvT hZ (oW hw 14 rfl)) (by decide) (backOf (W := 1) (rm1 l Z a0 hw [] b28 z1 a29 h29 n0 Z29 E_b28_29 F_receivers_b28_29 F_senderKind_b28_29 F_outboxes_b28_29 F_recipients_b28_29 F_first_b28_29 F_end_b28_29 F_senders_b28_29 F_messages_b28_29 F_delivered_b28_29 ge_b28 (by rw [← hz1]; exact own_n1 _)) hZ (oW hw 14 rfl) (oW hw 3 rfl) (by decide) (by decide)) (g := (mkF m 153 #[oI p0, oI p1, oI p2, oI p3, oI p4, oI p5, oI z1, oI z2, oI z3, oI z4, oI z5, oI z6, .val (.int (p3 &&& (3 : Int32))), oI z7, oI z8, oI z9, oI z10, oI z11, oI z15, oI z19, oI z23, oI z27, oU, oU, oU, oU, oU, oU, oU, oU, oU, oU, oU] [(.ref a29), (.int 2), (.int z1), (.ref b28), (.ref b28)])) rfl (by rw [hml]; rfl) (Steps.refl _) (a := b28) (argsL := [(.int z1), (.int 2), (.ref a29)]) (rest := [(.ref b28)]) (lenOf own_pd943 rfl) rfl (by show 2 * 0 + _ ≤ _; exact Nat.le_of_eq rfl) (hb hby at_153) (fun _ _ => ⟨rfl, e29, (by decide : 3 + 6 ≤ _), (by decide : 45 + 41 ≤ _)⟩)
     dsimp only [Pt.U, Pt.locs, Pt.cells, Pt.slots] at X30 l30 y30 z30 st30 hQ30
     replace y30 : 9 = k30 := y30.symm
     replace z30 : 86 = n30 := z30.symm
     subst y30 z30
     obtain ⟨ob30, rv30, il30, ix30, wd30, hd30, rfl, N30q, sz30, E_b28_30, F_receivers_b28_30, F_outboxes_b28_30, F_recipients_b28_30, F_first_b28_30, F_end_b28_30, F_senders_b28_30, F_messages_b28_30, F_delivered_b28_30, O_ob30_30, E_rv30_30, F_words_rv30_30, F_held_rv30_30, F_blocks_rv30_30, F_sorted_rv30_30, E_il30_30, F_indices_il30_30, F_size_il30_30, A_ix30_30, A_wd30_30, A_hd30_30, ge_ob30, ge_rv30, ge_il30, ge_ix30, ge_wd30, ge_hd30⟩ := hQ30
     have N30 : Fr n0 L30 := by rw [l30]; exact Fr.app N26 N30q
     have Z30 : n0 ≤ T30.heap.size := Nat.le_trans Z29 sz30
     have Y30 : k29 ≤ T30.heap.size := Nat.le_trans hk29 sz30
     refine own_goW (fun tg k => st30.trans k) ?_
     show oG (T30.setTop (mkF m 156 #[oI p0, oI p1, oI p2, oI p3, oI p4, oI p5, oI z1, oI z2, oI z3, oI z4, oI z5, oI z6, .val (.int (p3 &&& (3 : Int32))), oI z7, oI z8, oI z9, oI z10, oI z11, oI z15, oI z19, oI z23, oI z27, oU, oU, oU, oU, oU, oU, oU, oU, oU, oU, oU] [(.ref b28)]))
     have H_am_31 : own_AMf Z T30.heap n0 b28 z1 [] [] := ⟨ob30, rv30, (0 : Int32), .null, .null, .null, .null, [], [], wd30, hd30, il30, ix30, (fun _ => (0 : Int32)), E_b28_30, F_receivers_b28_30, F_outboxes_b28_30, F_recipients_b28_30, F_delivered_b28_30, F_senders_b28_30, F_messages_b28_30, F_first_b28_30, F_end_b28_30, O_ob30_30, ⟨by decide, Or.inl ⟨rfl, rfl, rfl⟩⟩, ⟨by decide, Or.inl ⟨rfl, rfl, rfl⟩⟩, E_rv30_30, F_words_rv30_30, F_held_rv30_30, F_blocks_rv30_30, F_sorted_rv30_30, E_il30_30, F_indices_il30_30, F_size_il30_30, A_ix30_30, A_wd30_30, A_hd30_30, ge_b28, ge_rv30, ge_wd30, ge_hd30, ge_il30, ge_ix30, ge_ob30, List.not_mem_nil, List.not_mem_nil, List.not_mem_nil, List.not_mem_nil, List.not_mem_nil, List.not_mem_nil, List.not_mem_nil, List.not_mem_nil, List.not_mem_nil, List.not_mem_nil, List.not_mem_nil, List.not_mem_nil, List.not_mem_nil, List.not_mem_nil, (fun x hx => absurd hx List.not_mem_nil)⟩
     refine own_goW (fun _ k => XS.astore X30.here hx rfl (hb hby at_156) rfl rfl (l' := #[oI p0, oI p1, oI p2, oI p3, oI p4, oI p5, oI z1, oI z2, oI z3, oI z4, oI z5, oI z6, .val (.int (p3 &&& (3 : Int32))), oI z7, oI z8, oI z9, oI z10, oI z11, oI z15, oI z19, oI z23, oI z27, oR b28, oU, oU, oU, oU, oU, oU, oU, oU, oU, oU]) rfl (XS.iload X30.here hx rfl (hb hby at_158) rfl k)) ?_
     have hk33 : ∀ (T' : State) (L' : List Loc) (H' : Heap), Stand p l e room_1 s m #[(.int p0), (.int p1), (.int p2), (.int p3), (.int p4), (.int p5)] below meth c T' L' 13 139 → Fr n0 L' → T'.heap = H' → n0 ≤ H'.size → k29 ≤ H'.size → own_AMf Z H' n0 b28 z1 (if z15 = (0 : Int32) then [] else (own_psh z8 (0 : Int32) [] z3)) (if z15 = (0 : Int32) then [] else (own_psh z8 (1 : Int32) [] z3)) → own_FinW Z own_EL p.tables e below s00 (own_QL (some (.int (own_f0 p0 p1 p2 p3 p4 p5))) n0) 56 1472 (T'.setTop (mkF m 176 #[oI p0, oI p1, oI p2, oI p3, oI p4, oI p5, oI z1, oI z2, oI z3, oI z4, oI z5, oI z6, .val (.int (p3 &&& (3 : Int32))), oI z7, oI z8, oI z9, oI z10, oI z11, oI z15, oI z19, oI z23, oI z27, oR b28, oU, oU, oU, oU, oU, oU, oU, oU, oU, oU] [])) := by
      intro T35 L35 h35j X35 N35 e35 Z35j Y35j H_am_35j
      obtain ⟨f36, hf36⟩ : ∃ z, z = (if z15 = (0 : Int32) then [] else (own_psh z8 (0 : Int32) [] z3)) := ⟨_, rfl⟩
      rw [← hf36] at H_am_35j
      obtain ⟨f37, hf37⟩ : ∃ z, z = (if z15 = (0 : Int32) then [] else (own_psh z8 (1 : Int32) [] z3)) := ⟨_, rfl⟩
      rw [← hf37] at H_am_35j
      have J0 : own_J z1 1 f36 f37 := by rw [hf36, hf37]; exact own_Ji (own_Jw (own_J0 _)) (own_Jp (own_J0 _) (show own_in z3 z1 from (by rw [← hz3]; rw [← hz1]; exact own_in1 _ _)))
      refine own_goW (fun _ k => XS.iload X35.here hx rfl (hb hby at_176) rfl k) ?_
      have hk39 : ∀ (T' : State) (L' : List Loc) (H' : Heap), Stand p l e room_1 s m #[(.int p0), (.int p1), (.int p2), (.int p3), (.int p4), (.int p5)] below meth c T' L' 17 192 → Fr n0 L' → T'.heap = H' → n0 ≤ H'.size → k29 ≤ H'.size → own_AMf Z H' n0 b28 z1 (if z19 = (0 : Int32) then f36 else (own_psh z9 (0 : Int32) f36 z4)) (if z19 = (0 : Int32) then f37 else (own_psh z9 (1 : Int32) f37 z4)) → own_FinW Z own_EL p.tables e below s00 (own_QL (some (.int (own_f0 p0 p1 p2 p3 p4 p5))) n0) 56 1472 (T'.setTop (mkF m 194 #[oI p0, oI p1, oI p2, oI p3, oI p4, oI p5, oI z1, oI z2, oI z3, oI z4, oI z5, oI z6, .val (.int (p3 &&& (3 : Int32))), oI z7, oI z8, oI z9, oI z10, oI z11, oI z15, oI z19, oI z23, oI z27, oR b28, oU, oU, oU, oU, oU, oU, oU, oU, oU, oU] [])) := by
       intro T41 L41 h41j X41 N41 e41 Z41j Y41j H_am_41j
       obtain ⟨f42, hf42⟩ : ∃ z, z = (if z19 = (0 : Int32) then f36 else (own_psh z9 (0 : Int32) f36 z4)) := ⟨_, rfl⟩
       rw [← hf42] at H_am_41j
       obtain ⟨f43, hf43⟩ : ∃ z, z = (if z19 = (0 : Int32) then f37 else (own_psh z9 (1 : Int32) f37 z4)) := ⟨_, rfl⟩
       rw [← hf43] at H_am_41j
       have J1 : own_J z1 2 f42 f43 := by rw [hf42, hf43]; exact own_Ji (own_Jw J0) (own_Jp J0 (show own_in z4 z1 from (by rw [← hz4]; rw [← hz1]; exact own_in1 _ _)))
       refine own_goW (fun _ k => XS.iload X41.here hx rfl (hb hby at_194) rfl k) ?_
       have hk45 : ∀ (T' : State) (L' : List Loc) (H' : Heap), Stand p l e room_1 s m #[(.int p0), (.int p1), (.int p2), (.int p3), (.int p4), (.int p5)] below meth c T' L' 21 245 → Fr n0 L' → T'.heap = H' → n0 ≤ H'.size → k29 ≤ H'.size → own_AMf Z H' n0 b28 z1 (if z23 = (0 : Int32) then f42 else (own_psh z10 (0 : Int32) f42 z5)) (if z23 = (0 : Int32) then f43 else (own_psh z10 (1 : Int32) f43 z5)) → own_FinW Z own_EL p.tables e below s00 (own_QL (some (.int (own_f0 p0 p1 p2 p3 p4 p5))) n0) 56 1472 (T'.setTop (mkF m 212 #[oI p0, oI p1, oI p2, oI p3, oI p4, oI p5, oI z1, oI z2, oI z3, oI z4, oI z5, oI z6, .val (.int (p3 &&& (3 : Int32))), oI z7, oI z8, oI z9, oI z10, oI z11, oI z15, oI z19, oI z23, oI z27, oR b28, oU, oU, oU, oU, oU, oU, oU, oU, oU, oU] [])) := by
        intro T47 L47 h47j X47 N47 e47 Z47j Y47j H_am_47j
        obtain ⟨f48, hf48⟩ : ∃ z, z = (if z23 = (0 : Int32) then f42 else (own_psh z10 (0 : Int32) f42 z5)) := ⟨_, rfl⟩
        rw [← hf48] at H_am_47j
        obtain ⟨f49, hf49⟩ : ∃ z, z = (if z23 = (0 : Int32) then f43 else (own_psh z10 (1 : Int32) f43 z5)) := ⟨_, rfl⟩
        rw [← hf49] at H_am_47j
        have J2 : own_J z1 3 f48 f49 := by rw [hf48, hf49]; exact own_Ji (own_Jw J1) (own_Jp J1 (show own_in z5 z1 from (by rw [← hz5]; rw [← hz1]; exact own_in1 _ _)))
        refine own_goW (fun _ k => XS.aload X47.here hx rfl (hb hby at_212) rfl rfl (XS.iconst X47.here hx rfl (hb hby at_214) k)) ?_
        obtain ⟨cq50, kq50, q50a, q50b, q50c⟩ := isOf hZ e47 (own_exf H_am_47j)
        obtain ⟨_, _, ⟨T50, L50, k50, n50⟩, -, X50, ⟨Lc50, hQ50, l50, y50, z50⟩, st50⟩ := X47.virtualBack hx (y := oM24) (z := oM24) hown (mvT hZ (oW hw 86 rfl)) (mvT hZ (oW hw 87 rfl)) (notFace_of_selects (args := #[]) (mvT hZ (oW hw 89 rfl))) (mvT hZ (oW hw 89 rfl)) (mvT hZ (oW hw 88 rfl)) (by decide) (backOf (W := 0) (rm9D1 l Z a0 hw [] b28 (0 : Int32) z1 f48 f49 h47j n0 Z47j H_am_47j (by rw [← hz1]; exact own_n1 _) (Nat.le_trans J2.1 (by decide)) J2.2) hZ (oW hw 90 rfl) (oW hw 3 rfl) (by decide) (by decide)) q50a q50c (g := (mkF m 215 #[oI p0, oI p1, oI p2, oI p3, oI p4, oI p5, oI z1, oI z2, oI z3, oI z4, oI z5, oI z6, .val (.int (p3 &&& (3 : Int32))), oI z7, oI z8, oI z9, oI z10, oI z11, oI z15, oI z19, oI z23, oI z27, oR b28, oU, oU, oU, oU, oU, oU, oU, oU, oU, oU] [(.int 0), (.ref b28)])) rfl (by rw [hml]; rfl) (Steps.refl _) (argsL := [(.int 0)]) (rest := []) (lenOf own_pd945 rfl) rfl (by show 2 * 0 + _ ≤ _; exact Nat.le_of_eq rfl) (hb hby at_215) (fun _ _ => ⟨rfl, e47, (by decide : 21 + 4 ≤ _), (by decide : 245 + 16 ≤ _)⟩)
        dsimp only [Pt.U, Pt.locs, Pt.cells, Pt.slots] at X50 l50 y50 z50 st50 hQ50
        replace y50 : 25 = k50 := y50.symm
        replace z50 : 261 = n50 := z50.symm
        subst y50 z50
        obtain ⟨rfl, N50q, sz50, H_am_50, H_rd_50⟩ := hQ50
        have N50 : Fr n0 L50 := by rw [l50]; exact Fr.app N47 N50q
        have Z50 : n0 ≤ T50.heap.size := Nat.le_trans Z47j sz50
        have Y50 : k29 ≤ T50.heap.size := Nat.le_trans Y47j sz50
        refine own_goW (fun tg k => st50.trans k) ?_
        show oG (T50.setTop (mkF m 218 #[oI p0, oI p1, oI p2, oI p3, oI p4, oI p5, oI z1, oI z2, oI z3, oI z4, oI z5, oI z6, .val (.int (p3 &&& (3 : Int32))), oI z7, oI z8, oI z9, oI z10, oI z11, oI z15, oI z19, oI z23, oI z27, oR b28, oU, oU, oU, oU, oU, oU, oU, oU, oU, oU] [(.int (own_dr f48 f49))]))
        refine own_goW (fun _ k => XS.pop X50.here hx rfl (hb hby at_218) rfl rfl (XS.aload X50.here hx rfl (hb hby at_219) rfl rfl (XS.iload X50.here hx rfl (hb hby at_221) rfl k))) ?_
        obtain ⟨cq51, kq51, q51a, q51b, q51c⟩ := isOf hZ rfl (own_exx H_am_50)
        obtain ⟨_, _, ⟨T51, L51, k51, n51⟩, -, X51, ⟨Lc51, hQ51, l51, y51, z51⟩, st51⟩ := X50.virtualBack hx (y := oM25) (z := oM25) hown (mvT hZ (oW hw 171 rfl)) (mvT hZ (oW hw 172 rfl)) (notFace_of_selects (args := #[]) (mvT hZ (oW hw 174 rfl))) (mvT hZ (oW hw 174 rfl)) (mvT hZ (oW hw 173 rfl)) (by decide) (backOf (W := 0) (rm23H l Z a0 hw [] b28 z2 z1 (own_FF f48 f49) (own_EE f48 f49) T50.heap n0 Z50 H_rd_50 (by rw [← hz2]; rw [← hz1]; exact own_in2 _ _)) hZ (oW hw 175 rfl) (oW hw 3 rfl) (by decide) (by decide)) q51a q51c (g := (mkF m 223 #[oI p0, oI p1, oI p2, oI p3, oI p4, oI p5, oI z1, oI z2, oI z3, oI z4, oI z5, oI z6, .val (.int (p3 &&& (3 : Int32))), oI z7, oI z8, oI z9, oI z10, oI z11, oI z15, oI z19, oI z23, oI z27, oR b28, oU, oU, oU, oU, oU, oU, oU, oU, oU, oU] [(.int z2), (.ref b28)])) rfl (by rw [hml]; rfl) (Steps.refl _) (argsL := [(.int z2)]) (rest := []) (lenOf own_pd90 rfl) rfl (by show 2 * 0 + _ ≤ _; exact Nat.le_of_eq rfl) (hb hby at_223) (fun _ _ => ⟨rfl, rfl, (by decide : 25 + 0 ≤ _), (by decide : 261 + 0 ≤ _)⟩)
        dsimp only [Pt.U, Pt.locs, Pt.cells, Pt.slots] at X51 l51 y51 z51 st51 hQ51
        replace y51 : 25 = k51 := y51.symm
        replace z51 : 261 = n51 := z51.symm
        subst y51 z51
        obtain ⟨rfl, N51q, e51⟩ := hQ51
        have N51 : Fr n0 L51 := by rw [l51]; exact Fr.app N50 N51q
        refine own_goW (fun tg k => st51.trans k) ?_
        show oG (T51.setTop (mkF m 226 #[oI p0, oI p1, oI p2, oI p3, oI p4, oI p5, oI z1, oI z2, oI z3, oI z4, oI z5, oI z6, .val (.int (p3 &&& (3 : Int32))), oI z7, oI z8, oI z9, oI z10, oI z11, oI z15, oI z19, oI z23, oI z27, oR b28, oU, oU, oU, oU, oU, oU, oU, oU, oU, oU] [(.int ((own_FF f48 f49) z2.toNatClampNeg))]))
        refine own_goW (fun _ k => XS.istore X51.here hx rfl (hb hby at_226) rfl (l' := #[oI p0, oI p1, oI p2, oI p3, oI p4, oI p5, oI z1, oI z2, oI z3, oI z4, oI z5, oI z6, .val (.int (p3 &&& (3 : Int32))), oI z7, oI z8, oI z9, oI z10, oI z11, oI z15, oI z19, oI z23, oI z27, oR b28, .val (.int ((own_FF f48 f49) z2.toNatClampNeg)), oU, oU, oU, oU, oU, oU, oU, oU, oU]) rfl k) ?_
        show oG (T51.setTop (mkF m 228 #[oI p0, oI p1, oI p2, oI p3, oI p4, oI p5, oI z1, oI z2, oI z3, oI z4, oI z5, oI z6, .val (.int (p3 &&& (3 : Int32))), oI z7, oI z8, oI z9, oI z10, oI z11, oI z15, oI z19, oI z23, oI z27, oR b28, .val (.int ((own_FF f48 f49) z2.toNatClampNeg)), oU, oU, oU, oU, oU, oU, oU, oU, oU] []))
        generalize hz52 : ((own_FF f48 f49) z2.toNatClampNeg) = z52
        show oG (T51.setTop (mkF m 228 #[oI p0, oI p1, oI p2, oI p3, oI p4, oI p5, oI z1, oI z2, oI z3, oI z4, oI z5, oI z6, .val (.int (p3 &&& (3 : Int32))), oI z7, oI z8, oI z9, oI z10, oI z11, oI z15, oI z19, oI z23, oI z27, oR b28, oI z52, oU, oU, oU, oU, oU, oU, oU, oU, oU] []))
        refine own_goW (fun _ k => XS.aload X51.here hx rfl (hb hby at_228) rfl rfl (XS.iload X51.here hx rfl (hb hby at_230) rfl k)) ?_
        obtain ⟨cq53, kq53, q53a, q53b, q53c⟩ := isOf hZ e51 (own_exx H_am_50)
        obtain ⟨_, _, ⟨T53, L53, k53, n53⟩, -, X53, ⟨Lc53, hQ53, l53, y53, z53⟩, st53⟩ := X51.virtualBack hx (y := oM26) (z := oM26) hown (mvT hZ (oW hw 176 rfl)) (mvT hZ (oW hw 177 rfl)) (notFace_of_selects (args := #[]) (mvT hZ (oW hw 179 rfl))) (mvT hZ (oW hw 179 rfl)) (mvT hZ (oW hw 178 rfl)) (by decide) (backOf (W := 0) (rm24H l Z a0 hw [] b28 z2 z1 (own_FF f48 f49) (own_EE f48 f49) T50.heap n0 Z50 H_rd_50 (by rw [← hz2]; rw [← hz1]; exact own_in2 _ _)) hZ (oW hw 180 rfl) (oW hw 3 rfl) (by decide) (by decide)) q53a q53c (g := (mkF m 232 #[oI p0, oI p1, oI p2, oI p3, oI p4, oI p5, oI z1, oI z2, oI z3, oI z4, oI z5, oI z6, .val (.int (p3 &&& (3 : Int32))), oI z7, oI z8, oI z9, oI z10, oI z11, oI z15, oI z19, oI z23, oI z27, oR b28, oI z52, oU, oU, oU, oU, oU, oU, oU, oU, oU] [(.int z2), (.ref b28)])) rfl (by rw [hml]; rfl) (Steps.refl _) (argsL := [(.int z2)]) (rest := []) (lenOf own_pd90 rfl) rfl (by show 2 * 0 + _ ≤ _; exact Nat.le_of_eq rfl) (hb hby at_232) (fun _ _ => ⟨rfl, e51, (by decide : 25 + 0 ≤ _), (by decide : 261 + 0 ≤ _)⟩)
        dsimp only [Pt.U, Pt.locs, Pt.cells, Pt.slots] at X53 l53 y53 z53 st53 hQ53
        replace y53 : 25 = k53 := y53.symm
        replace z53 : 261 = n53 := z53.symm
        subst y53 z53
        obtain ⟨rfl, N53q, e53⟩ := hQ53
        have N53 : Fr n0 L53 := by rw [l53]; exact Fr.app N51 N53q
        refine own_goW (fun tg k => st53.trans k) ?_
        show oG (T53.setTop (mkF m 235 #[oI p0, oI p1, oI p2, oI p3, oI p4, oI p5, oI z1, oI z2, oI z3, oI z4, oI z5, oI z6, .val (.int (p3 &&& (3 : Int32))), oI z7, oI z8, oI z9, oI z10, oI z11, oI z15, oI z19, oI z23, oI z27, oR b28, oI z52, oU, oU, oU, oU, oU, oU, oU, oU, oU] [(.int ((own_EE f48 f49) z2.toNatClampNeg))]))
        refine own_goW (fun _ k => XS.istore X53.here hx rfl (hb hby at_235) rfl (l' := #[oI p0, oI p1, oI p2, oI p3, oI p4, oI p5, oI z1, oI z2, oI z3, oI z4, oI z5, oI z6, .val (.int (p3 &&& (3 : Int32))), oI z7, oI z8, oI z9, oI z10, oI z11, oI z15, oI z19, oI z23, oI z27, oR b28, oI z52, .val (.int ((own_EE f48 f49) z2.toNatClampNeg)), oU, oU, oU, oU, oU, oU, oU, oU]) rfl k) ?_
        show oG (T53.setTop (mkF m 237 #[oI p0, oI p1, oI p2, oI p3, oI p4, oI p5, oI z1, oI z2, oI z3, oI z4, oI z5, oI z6, .val (.int (p3 &&& (3 : Int32))), oI z7, oI z8, oI z9, oI z10, oI z11, oI z15, oI z19, oI z23, oI z27, oR b28, oI z52, .val (.int ((own_EE f48 f49) z2.toNatClampNeg)), oU, oU, oU, oU, oU, oU, oU, oU] []))
        generalize hz54 : ((own_EE f48 f49) z2.toNatClampNeg) = z54
        show oG (T53.setTop (mkF m 237 #[oI p0, oI p1, oI p2, oI p3, oI p4, oI p5, oI z1, oI z2, oI z3, oI z4, oI z5, oI z6, .val (.int (p3 &&& (3 : Int32))), oI z7, oI z8, oI z9, oI z10, oI z11, oI z15, oI z19, oI z23, oI z27, oR b28, oI z52, oI z54, oU, oU, oU, oU, oU, oU, oU, oU] []))
        refine own_goW (fun _ k => XS.iload X53.here hx rfl (hb hby at_237) rfl (XS.iload X53.here hx rfl (hb hby at_239) rfl (XS.iload X53.here hx rfl (hb hby at_241) rfl k))) ?_
        obtain ⟨_, _, ⟨T55, L55, k55, n55⟩, -, X55, ⟨Lc55, hQ55, l55, y55, z55⟩, st55⟩ := Jvm.LawKit.callS X53 hx (y := oM28) hown (mvT hZ (oW hw 181 rfl)) (mvT hZ (oW hw 182 rfl)) (mvT hZ (oW hw 183 rfl)) (mvT hZ (oW hw 184 rfl)) (by decide) (backOf (W := 0) (rm25 l Z a0 hw [] z15 z3 z2 T50.heap n0 Z50) hZ (oW hw 184 rfl) (oW hw 183 rfl) (by decide) (by decide)) (g := (mkF m 243 #[oI p0, oI p1, oI p2, oI p3, oI p4, oI p5, oI z1, oI z2, oI z3, oI z4, oI z5, oI z6, .val (.int (p3 &&& (3 : Int32))), oI z7, oI z8, oI z9, oI z10, oI z11, oI z15, oI z19, oI z23, oI z27, oR b28, oI z52, oI z54, oU, oU, oU, oU, oU, oU, oU, oU] [(.int z2), (.int z3), (.int z15)])) rfl (by rw [hml]; rfl) (argsL := [(.int z15), (.int z3), (.int z2)]) (rest := []) (lenOf own_pd946 rfl) rfl (by show 2 * 0 + _ ≤ _; exact Nat.le_of_eq rfl) (hb hby at_243) (fun _ _ => ⟨rfl, e53, (by decide : 25 + 0 ≤ _), (by decide : 261 + 0 ≤ _)⟩)
        dsimp only [Pt.U, Pt.locs, Pt.cells, Pt.slots] at X55 l55 y55 z55 st55 hQ55
        replace y55 : 25 = k55 := y55.symm
        replace z55 : 261 = n55 := z55.symm
        subst y55 z55
        obtain ⟨rfl, N55q, e55⟩ := hQ55
        have N55 : Fr n0 L55 := by rw [l55]; exact Fr.app N53 N55q
        refine own_goW (fun tg k => st55 tg k) ?_
        show oG (T55.setTop (mkF m 246 #[oI p0, oI p1, oI p2, oI p3, oI p4, oI p5, oI z1, oI z2, oI z3, oI z4, oI z5, oI z6, .val (.int (p3 &&& (3 : Int32))), oI z7, oI z8, oI z9, oI z10, oI z11, oI z15, oI z19, oI z23, oI z27, oR b28, oI z52, oI z54, oU, oU, oU, oU, oU, oU, oU, oU] [(.int (own_f25 z15 z3 z2))]))
        refine own_goW (fun _ k => XS.iload X55.here hx rfl (hb hby at_246) rfl (XS.iload X55.here hx rfl (hb hby at_248) rfl (XS.iload X55.here hx rfl (hb hby at_250) rfl k))) ?_
        obtain ⟨_, _, ⟨T56, L56, k56, n56⟩, -, X56, ⟨Lc56, hQ56, l56, y56, z56⟩, st56⟩ := Jvm.LawKit.callS X55 hx (y := oM28) hown (mvT hZ (oW hw 181 rfl)) (mvT hZ (oW hw 182 rfl)) (mvT hZ (oW hw 183 rfl)) (mvT hZ (oW hw 184 rfl)) (by decide) (backOf (W := 1) (rm25 l Z a0 hw [] z19 z4 z2 T50.heap n0 Z50) hZ (oW hw 184 rfl) (oW hw 183 rfl) (by decide) (by decide)) (g := (mkF m 252 #[oI p0, oI p1, oI p2, oI p3, oI p4, oI p5, oI z1, oI z2, oI z3, oI z4, oI z5, oI z6, .val (.int (p3 &&& (3 : Int32))), oI z7, oI z8, oI z9, oI z10, oI z11, oI z15, oI z19, oI z23, oI z27, oR b28, oI z52, oI z54, oU, oU, oU, oU, oU, oU, oU, oU] [(.int z2), (.int z4), (.int z19), (.int (own_f25 z15 z3 z2))])) rfl (by rw [hml]; rfl) (argsL := [(.int z19), (.int z4), (.int z2)]) (rest := [(.int (own_f25 z15 z3 z2))]) (lenOf own_pd946 rfl) rfl (by show 2 * 0 + _ ≤ _; exact Nat.le_of_eq rfl) (hb hby at_252) (fun _ _ => ⟨rfl, e55, (by decide : 25 + 0 ≤ _), (by decide : 261 + 0 ≤ _)⟩)
        dsimp only [Pt.U, Pt.locs, Pt.cells, Pt.slots] at X56 l56 y56 z56 st56 hQ56
        replace y56 : 25 = k56 := y56.symm
        replace z56 : 261 = n56 := z56.symm
        subst y56 z56
        obtain ⟨rfl, N56q, e56⟩ := hQ56
        have N56 : Fr n0 L56 := by rw [l56]; exact Fr.app N55 N56q
        refine own_goW (fun tg k => st56 tg k) ?_
        show oG (T56.setTop (mkF m 255 #[oI p0, oI p1, oI p2, oI p3, oI p4, oI p5, oI z1, oI z2, oI z3, oI z4, oI z5, oI z6, .val (.int (p3 &&& (3 : Int32))), oI z7, oI z8, oI z9, oI z10, oI z11, oI z15, oI z19, oI z23, oI z27, oR b28, oI z52, oI z54, oU, oU, oU, oU, oU, oU, oU, oU] [(.int (own_f25 z19 z4 z2)), (.int (own_f25 z15 z3 z2))]))
        refine own_goW (fun _ k => XS.iadd X56.here hx rfl (hb hby at_255) rfl (XS.iload X56.here hx rfl (hb hby at_256) rfl (XS.iload X56.here hx rfl (hb hby at_258) rfl (XS.iload X56.here hx rfl (hb hby at_260) rfl k)))) ?_
        obtain ⟨_, _, ⟨T57, L57, k57, n57⟩, -, X57, ⟨Lc57, hQ57, l57, y57, z57⟩, st57⟩ := Jvm.LawKit.callS X56 hx (y := oM28) hown (mvT hZ (oW hw 181 rfl)) (mvT hZ (oW hw 182 rfl)) (mvT hZ (oW hw 183 rfl)) (mvT hZ (oW hw 184 rfl)) (by decide) (backOf (W := 1) (rm25 l Z a0 hw [] z23 z5 z2 T50.heap n0 Z50) hZ (oW hw 184 rfl) (oW hw 183 rfl) (by decide) (by decide)) (g := (mkF m 262 #[oI p0, oI p1, oI p2, oI p3, oI p4, oI p5, oI z1, oI z2, oI z3, oI z4, oI z5, oI z6, .val (.int (p3 &&& (3 : Int32))), oI z7, oI z8, oI z9, oI z10, oI z11, oI z15, oI z19, oI z23, oI z27, oR b28, oI z52, oI z54, oU, oU, oU, oU, oU, oU, oU, oU] [(.int z2), (.int z5), (.int z23), (.int ((own_f25 z15 z3 z2) + (own_f25 z19 z4 z2)))])) rfl (by rw [hml]; rfl) (argsL := [(.int z23), (.int z5), (.int z2)]) (rest := [(.int ((own_f25 z15 z3 z2) + (own_f25 z19 z4 z2)))]) (lenOf own_pd946 rfl) rfl (by show 2 * 0 + _ ≤ _; exact Nat.le_of_eq rfl) (hb hby at_262) (fun _ _ => ⟨rfl, e56, (by decide : 25 + 0 ≤ _), (by decide : 261 + 0 ≤ _)⟩)
        dsimp only [Pt.U, Pt.locs, Pt.cells, Pt.slots] at X57 l57 y57 z57 st57 hQ57
        replace y57 : 25 = k57 := y57.symm
        replace z57 : 261 = n57 := z57.symm
        subst y57 z57
        obtain ⟨rfl, N57q, e57⟩ := hQ57
        have N57 : Fr n0 L57 := by rw [l57]; exact Fr.app N56 N57q
        refine own_goW (fun tg k => st57 tg k) ?_
        show oG (T57.setTop (mkF m 265 #[oI p0, oI p1, oI p2, oI p3, oI p4, oI p5, oI z1, oI z2, oI z3, oI z4, oI z5, oI z6, .val (.int (p3 &&& (3 : Int32))), oI z7, oI z8, oI z9, oI z10, oI z11, oI z15, oI z19, oI z23, oI z27, oR b28, oI z52, oI z54, oU, oU, oU, oU, oU, oU, oU, oU] [(.int (own_f25 z23 z5 z2)), (.int ((own_f25 z15 z3 z2) + (own_f25 z19 z4 z2)))]))
        refine own_goW (fun _ k => XS.iadd X57.here hx rfl (hb hby at_265) rfl (XS.istore X57.here hx rfl (hb hby at_266) rfl (l' := #[oI p0, oI p1, oI p2, oI p3, oI p4, oI p5, oI z1, oI z2, oI z3, oI z4, oI z5, oI z6, .val (.int (p3 &&& (3 : Int32))), oI z7, oI z8, oI z9, oI z10, oI z11, oI z15, oI z19, oI z23, oI z27, oR b28, oI z52, oI z54, .val (.int (((own_f25 z15 z3 z2) + (own_f25 z19 z4 z2)) + (own_f25 z23 z5 z2))), oU, oU, oU, oU, oU, oU, oU]) rfl k)) ?_
        show oG (T57.setTop (mkF m 268 #[oI p0, oI p1, oI p2, oI p3, oI p4, oI p5, oI z1, oI z2, oI z3, oI z4, oI z5, oI z6, .val (.int (p3 &&& (3 : Int32))), oI z7, oI z8, oI z9, oI z10, oI z11, oI z15, oI z19, oI z23, oI z27, oR b28, oI z52, oI z54, .val (.int (((own_f25 z15 z3 z2) + (own_f25 z19 z4 z2)) + (own_f25 z23 z5 z2))), oU, oU, oU, oU, oU, oU, oU] []))
        generalize hz58 : (((own_f25 z15 z3 z2) + (own_f25 z19 z4 z2)) + (own_f25 z23 z5 z2)) = z58
        show oG (T57.setTop (mkF m 268 #[oI p0, oI p1, oI p2, oI p3, oI p4, oI p5, oI z1, oI z2, oI z3, oI z4, oI z5, oI z6, .val (.int (p3 &&& (3 : Int32))), oI z7, oI z8, oI z9, oI z10, oI z11, oI z15, oI z19, oI z23, oI z27, oR b28, oI z52, oI z54, oI z58, oU, oU, oU, oU, oU, oU, oU] []))
        refine own_goW (fun _ k => XS.iload X57.here hx rfl (hb hby at_268) rfl (XS.iload X57.here hx rfl (hb hby at_270) rfl (XS.iload X57.here hx rfl (hb hby at_272) rfl k))) ?_
        obtain ⟨_, _, ⟨T59, L59, k59, n59⟩, -, X59, ⟨Lc59, hQ59, l59, y59, z59⟩, st59⟩ := Jvm.LawKit.callS X57 hx (y := oM29) hown (mvT hZ (oW hw 185 rfl)) (mvT hZ (oW hw 186 rfl)) (mvT hZ (oW hw 183 rfl)) (mvT hZ (oW hw 187 rfl)) (by decide) (backOf (W := 0) (rm26 l Z a0 hw [] z15 z3 z2 T50.heap n0 Z50) hZ (oW hw 187 rfl) (oW hw 183 rfl) (by decide) (by decide)) (g := (mkF m 274 #[oI p0, oI p1, oI p2, oI p3, oI p4, oI p5, oI z1, oI z2, oI z3, oI z4, oI z5, oI z6, .val (.int (p3 &&& (3 : Int32))), oI z7, oI z8, oI z9, oI z10, oI z11, oI z15, oI z19, oI z23, oI z27, oR b28, oI z52, oI z54, oI z58, oU, oU, oU, oU, oU, oU, oU] [(.int z2), (.int z3), (.int z15)])) rfl (by rw [hml]; rfl) (argsL := [(.int z15), (.int z3), (.int z2)]) (rest := []) (lenOf own_pd946 rfl) rfl (by show 2 * 0 + _ ≤ _; exact Nat.le_of_eq rfl) (hb hby at_274) (fun _ _ => ⟨rfl, e57, (by decide : 25 + 0 ≤ _), (by decide : 261 + 0 ≤ _)⟩)
        dsimp only [Pt.U, Pt.locs, Pt.cells, Pt.slots] at X59 l59 y59 z59 st59 hQ59
        replace y59 : 25 = k59 := y59.symm
        replace z59 : 261 = n59 := z59.symm
        subst y59 z59
        obtain ⟨rfl, N59q, e59⟩ := hQ59
        have N59 : Fr n0 L59 := by rw [l59]; exact Fr.app N57 N59q
        refine own_goW (fun tg k => st59 tg k) ?_
        show oG (T59.setTop (mkF m 277 #[oI p0, oI p1, oI p2, oI p3, oI p4, oI p5, oI z1, oI z2, oI z3, oI z4, oI z5, oI z6, .val (.int (p3 &&& (3 : Int32))), oI z7, oI z8, oI z9, oI z10, oI z11, oI z15, oI z19, oI z23, oI z27, oR b28, oI z52, oI z54, oI z58, oU, oU, oU, oU, oU, oU, oU] [(.int (own_f26 z15 z3 z2))]))
        refine own_goW (fun _ k => XS.iload X59.here hx rfl (hb hby at_277) rfl (XS.iload X59.here hx rfl (hb hby at_279) rfl (XS.iload X59.here hx rfl (hb hby at_281) rfl k))) ?_
        obtain ⟨_, _, ⟨T60, L60, k60, n60⟩, -, X60, ⟨Lc60, hQ60, l60, y60, z60⟩, st60⟩ := Jvm.LawKit.callS X59 hx (y := oM29) hown (mvT hZ (oW hw 185 rfl)) (mvT hZ (oW hw 186 rfl)) (mvT hZ (oW hw 183 rfl)) (mvT hZ (oW hw 187 rfl)) (by decide) (backOf (W := 1) (rm26 l Z a0 hw [] z19 z4 z2 T50.heap n0 Z50) hZ (oW hw 187 rfl) (oW hw 183 rfl) (by decide) (by decide)) (g := (mkF m 283 #[oI p0, oI p1, oI p2, oI p3, oI p4, oI p5, oI z1, oI z2, oI z3, oI z4, oI z5, oI z6, .val (.int (p3 &&& (3 : Int32))), oI z7, oI z8, oI z9, oI z10, oI z11, oI z15, oI z19, oI z23, oI z27, oR b28, oI z52, oI z54, oI z58, oU, oU, oU, oU, oU, oU, oU] [(.int z2), (.int z4), (.int z19), (.int (own_f26 z15 z3 z2))])) rfl (by rw [hml]; rfl) (argsL := [(.int z19), (.int z4), (.int z2)]) (rest := [(.int (own_f26 z15 z3 z2))]) (lenOf own_pd946 rfl) rfl (by show 2 * 0 + _ ≤ _; exact Nat.le_of_eq rfl) (hb hby at_283) (fun _ _ => ⟨rfl, e59, (by decide : 25 + 0 ≤ _), (by decide : 261 + 0 ≤ _)⟩)
        dsimp only [Pt.U, Pt.locs, Pt.cells, Pt.slots] at X60 l60 y60 z60 st60 hQ60
        replace y60 : 25 = k60 := y60.symm
        replace z60 : 261 = n60 := z60.symm
        subst y60 z60
        obtain ⟨rfl, N60q, e60⟩ := hQ60
        have N60 : Fr n0 L60 := by rw [l60]; exact Fr.app N59 N60q
        refine own_goW (fun tg k => st60 tg k) ?_
        show oG (T60.setTop (mkF m 286 #[oI p0, oI p1, oI p2, oI p3, oI p4, oI p5, oI z1, oI z2, oI z3, oI z4, oI z5, oI z6, .val (.int (p3 &&& (3 : Int32))), oI z7, oI z8, oI z9, oI z10, oI z11, oI z15, oI z19, oI z23, oI z27, oR b28, oI z52, oI z54, oI z58, oU, oU, oU, oU, oU, oU, oU] [(.int (own_f26 z19 z4 z2)), (.int (own_f26 z15 z3 z2))]))
        refine own_goW (fun _ k => XS.iadd X60.here hx rfl (hb hby at_286) rfl (XS.iload X60.here hx rfl (hb hby at_287) rfl (XS.iload X60.here hx rfl (hb hby at_289) rfl (XS.iload X60.here hx rfl (hb hby at_291) rfl k)))) ?_
        obtain ⟨_, _, ⟨T61, L61, k61, n61⟩, -, X61, ⟨Lc61, hQ61, l61, y61, z61⟩, st61⟩ := Jvm.LawKit.callS X60 hx (y := oM29) hown (mvT hZ (oW hw 185 rfl)) (mvT hZ (oW hw 186 rfl)) (mvT hZ (oW hw 183 rfl)) (mvT hZ (oW hw 187 rfl)) (by decide) (backOf (W := 1) (rm26 l Z a0 hw [] z23 z5 z2 T50.heap n0 Z50) hZ (oW hw 187 rfl) (oW hw 183 rfl) (by decide) (by decide)) (g := (mkF m 293 #[oI p0, oI p1, oI p2, oI p3, oI p4, oI p5, oI z1, oI z2, oI z3, oI z4, oI z5, oI z6, .val (.int (p3 &&& (3 : Int32))), oI z7, oI z8, oI z9, oI z10, oI z11, oI z15, oI z19, oI z23, oI z27, oR b28, oI z52, oI z54, oI z58, oU, oU, oU, oU, oU, oU, oU] [(.int z2), (.int z5), (.int z23), (.int ((own_f26 z15 z3 z2) + (own_f26 z19 z4 z2)))])) rfl (by rw [hml]; rfl) (argsL := [(.int z23), (.int z5), (.int z2)]) (rest := [(.int ((own_f26 z15 z3 z2) + (own_f26 z19 z4 z2)))]) (lenOf own_pd946 rfl) rfl (by show 2 * 0 + _ ≤ _; exact Nat.le_of_eq rfl) (hb hby at_293) (fun _ _ => ⟨rfl, e60, (by decide : 25 + 0 ≤ _), (by decide : 261 + 0 ≤ _)⟩)
        dsimp only [Pt.U, Pt.locs, Pt.cells, Pt.slots] at X61 l61 y61 z61 st61 hQ61
        replace y61 : 25 = k61 := y61.symm
        replace z61 : 261 = n61 := z61.symm
        subst y61 z61
        obtain ⟨rfl, N61q, e61⟩ := hQ61
        have N61 : Fr n0 L61 := by rw [l61]; exact Fr.app N60 N61q
        refine own_goW (fun tg k => st61 tg k) ?_
        show oG (T61.setTop (mkF m 296 #[oI p0, oI p1, oI p2, oI p3, oI p4, oI p5, oI z1, oI z2, oI z3, oI z4, oI z5, oI z6, .val (.int (p3 &&& (3 : Int32))), oI z7, oI z8, oI z9, oI z10, oI z11, oI z15, oI z19, oI z23, oI z27, oR b28, oI z52, oI z54, oI z58, oU, oU, oU, oU, oU, oU, oU] [(.int (own_f26 z23 z5 z2)), (.int ((own_f26 z15 z3 z2) + (own_f26 z19 z4 z2)))]))
        refine own_goW (fun _ k => XS.iadd X61.here hx rfl (hb hby at_296) rfl (XS.istore X61.here hx rfl (hb hby at_297) rfl (l' := #[oI p0, oI p1, oI p2, oI p3, oI p4, oI p5, oI z1, oI z2, oI z3, oI z4, oI z5, oI z6, .val (.int (p3 &&& (3 : Int32))), oI z7, oI z8, oI z9, oI z10, oI z11, oI z15, oI z19, oI z23, oI z27, oR b28, oI z52, oI z54, oI z58, .val (.int (((own_f26 z15 z3 z2) + (own_f26 z19 z4 z2)) + (own_f26 z23 z5 z2))), oU, oU, oU, oU, oU, oU]) rfl k)) ?_
        show oG (T61.setTop (mkF m 299 #[oI p0, oI p1, oI p2, oI p3, oI p4, oI p5, oI z1, oI z2, oI z3, oI z4, oI z5, oI z6, .val (.int (p3 &&& (3 : Int32))), oI z7, oI z8, oI z9, oI z10, oI z11, oI z15, oI z19, oI z23, oI z27, oR b28, oI z52, oI z54, oI z58, .val (.int (((own_f26 z15 z3 z2) + (own_f26 z19 z4 z2)) + (own_f26 z23 z5 z2))), oU, oU, oU, oU, oU, oU] []))
        generalize hz62 : (((own_f26 z15 z3 z2) + (own_f26 z19 z4 z2)) + (own_f26 z23 z5 z2)) = z62
        show oG (T61.setTop (mkF m 299 #[oI p0, oI p1, oI p2, oI p3, oI p4, oI p5, oI z1, oI z2, oI z3, oI z4, oI z5, oI z6, .val (.int (p3 &&& (3 : Int32))), oI z7, oI z8, oI z9, oI z10, oI z11, oI z15, oI z19, oI z23, oI z27, oR b28, oI z52, oI z54, oI z58, oI z62, oU, oU, oU, oU, oU, oU] []))
        refine own_goW (fun _ k => XS.iload X61.here hx rfl (hb hby at_299) rfl (XS.iload X61.here hx rfl (hb hby at_301) rfl (XS.iload X61.here hx rfl (hb hby at_303) rfl (XS.iload X61.here hx rfl (hb hby at_305) rfl (XS.iload X61.here hx rfl (hb hby at_307) rfl k))))) ?_
        obtain ⟨_, _, ⟨T63, L63, k63, n63⟩, -, X63, ⟨Lc63, hQ63, l63, y63, z63⟩, st63⟩ := Jvm.LawKit.callS X61 hx (y := oM30) hown (mvT hZ (oW hw 188 rfl)) (mvT hZ (oW hw 189 rfl)) (mvT hZ (oW hw 183 rfl)) (mvT hZ (oW hw 190 rfl)) (by decide) (backOf (W := 0) (rm27 l Z a0 hw [] z52 z54 z58 z62 (p3 &&& (3 : Int32)) T50.heap n0 Z50) hZ (oW hw 190 rfl) (oW hw 183 rfl) (by decide) (by decide)) (g := (mkF m 309 #[oI p0, oI p1, oI p2, oI p3, oI p4, oI p5, oI z1, oI z2, oI z3, oI z4, oI z5, oI z6, .val (.int (p3 &&& (3 : Int32))), oI z7, oI z8, oI z9, oI z10, oI z11, oI z15, oI z19, oI z23, oI z27, oR b28, oI z52, oI z54, oI z58, oI z62, oU, oU, oU, oU, oU, oU] [(.int (p3 &&& (3 : Int32))), (.int z62), (.int z58), (.int z54), (.int z52)])) rfl (by rw [hml]; rfl) (argsL := [(.int z52), (.int z54), (.int z58), (.int z62), (.int (p3 &&& (3 : Int32)))]) (rest := []) (lenOf own_pd947 rfl) rfl (by show 2 * 0 + _ ≤ _; exact Nat.le_of_eq rfl) (hb hby at_309) (fun _ _ => ⟨rfl, e61, (by decide : 25 + 0 ≤ _), (by decide : 261 + 0 ≤ _)⟩)
        dsimp only [Pt.U, Pt.locs, Pt.cells, Pt.slots] at X63 l63 y63 z63 st63 hQ63
        replace y63 : 25 = k63 := y63.symm
        replace z63 : 261 = n63 := z63.symm
        subst y63 z63
        obtain ⟨rfl, N63q, e63⟩ := hQ63
        have N63 : Fr n0 L63 := by rw [l63]; exact Fr.app N61 N63q
        refine own_goW (fun tg k => st63 tg k) ?_
        show oG (T63.setTop (mkF m 312 #[oI p0, oI p1, oI p2, oI p3, oI p4, oI p5, oI z1, oI z2, oI z3, oI z4, oI z5, oI z6, .val (.int (p3 &&& (3 : Int32))), oI z7, oI z8, oI z9, oI z10, oI z11, oI z15, oI z19, oI z23, oI z27, oR b28, oI z52, oI z54, oI z58, oI z62, oU, oU, oU, oU, oU, oU] [(.int (own_f27 z52 z54 z58 z62 (p3 &&& (3 : Int32))))]))
        refine own_goW (fun _ k => XS.istore X63.here hx rfl (hb hby at_312) rfl (l' := #[oI p0, oI p1, oI p2, oI p3, oI p4, oI p5, oI z1, oI z2, oI z3, oI z4, oI z5, oI z6, .val (.int (p3 &&& (3 : Int32))), oI z7, oI z8, oI z9, oI z10, oI z11, oI z15, oI z19, oI z23, oI z27, oR b28, oI z52, oI z54, oI z58, oI z62, .val (.int (own_f27 z52 z54 z58 z62 (p3 &&& (3 : Int32)))), oU, oU, oU, oU, oU]) rfl k) ?_
        show oG (T63.setTop (mkF m 314 #[oI p0, oI p1, oI p2, oI p3, oI p4, oI p5, oI z1, oI z2, oI z3, oI z4, oI z5, oI z6, .val (.int (p3 &&& (3 : Int32))), oI z7, oI z8, oI z9, oI z10, oI z11, oI z15, oI z19, oI z23, oI z27, oR b28, oI z52, oI z54, oI z58, oI z62, .val (.int (own_f27 z52 z54 z58 z62 (p3 &&& (3 : Int32)))), oU, oU, oU, oU, oU] []))
        generalize hz64 : (own_f27 z52 z54 z58 z62 (p3 &&& (3 : Int32))) = z64
        show oG (T63.setTop (mkF m 314 #[oI p0, oI p1, oI p2, oI p3, oI p4, oI p5, oI z1, oI z2, oI z3, oI z4, oI z5, oI z6, .val (.int (p3 &&& (3 : Int32))), oI z7, oI z8, oI z9, oI z10, oI z11, oI z15, oI z19, oI z23, oI z27, oR b28, oI z52, oI z54, oI z58, oI z62, oI z64, oU, oU, oU, oU, oU] []))
        refine own_goW (fun _ k => XS.iload X63.here hx rfl (hb hby at_314) rfl k) ?_
        have hk66 : ∀ (T' : State) (L' : List Loc) (H' : Heap), Stand p l e room_1 s m #[(.int p0), (.int p1), (.int p2), (.int p3), (.int p4), (.int p5)] below meth c T' L' 29 314 → Fr n0 L' → T'.heap = H' → n0 ≤ H'.size → k29 ≤ H'.size → own_AMx Z H' n0 b28 z1 (if z27 = (0 : Int32) then [] else (own_psh z11 (0 : Int32) [] z6)) (if z27 = (0 : Int32) then [] else (own_psh z11 (1 : Int32) [] z6)) (own_FF f48 f49) (own_EE f48 f49) → own_FinW Z own_EL p.tables e below s00 (own_QL (some (.int (own_f0 p0 p1 p2 p3 p4 p5))) n0) 56 1472 (T'.setTop (mkF m 332 #[oI p0, oI p1, oI p2, oI p3, oI p4, oI p5, oI z1, oI z2, oI z3, oI z4, oI z5, oI z6, .val (.int (p3 &&& (3 : Int32))), oI z7, oI z8, oI z9, oI z10, oI z11, oI z15, oI z19, oI z23, oI z27, oR b28, oI z52, oI z54, oI z58, oI z62, oI z64, oU, oU, oU, oU, oU] [])) := by
         intro T68 L68 h68j X68 N68 e68 Z68j Y68j H_am_68j
         obtain ⟨f69, hf69⟩ : ∃ z, z = (if z27 = (0 : Int32) then [] else (own_psh z11 (0 : Int32) [] z6)) := ⟨_, rfl⟩
         rw [← hf69] at H_am_68j
         obtain ⟨f70, hf70⟩ : ∃ z, z = (if z27 = (0 : Int32) then [] else (own_psh z11 (1 : Int32) [] z6)) := ⟨_, rfl⟩
         rw [← hf70] at H_am_68j
         have K0 : own_J z1 1 f69 f70 := by rw [hf69, hf70]; exact own_Ji (own_Jw (own_J0 _)) (own_Jp (own_J0 _) (show own_in z6 z1 from (by rw [← hz6]; rw [← hz1]; exact own_in16 _ _)))
         refine own_goW (fun _ k => XS.aload X68.here hx rfl (hb hby at_332) rfl rfl (XS.iconst X68.here hx rfl (hb hby at_334) k)) ?_
         obtain ⟨cq71, kq71, q71a, q71b, q71c⟩ := isOf hZ e68 (own_exx H_am_68j)
         obtain ⟨_, _, ⟨T71, L71, k71, n71⟩, -, X71, ⟨Lc71, hQ71, l71, y71, z71⟩, st71⟩ := X68.virtualBack hx (y := oM24) (z := oM24) hown (mvT hZ (oW hw 86 rfl)) (mvT hZ (oW hw 87 rfl)) (notFace_of_selects (args := #[]) (mvT hZ (oW hw 89 rfl))) (mvT hZ (oW hw 89 rfl)) (mvT hZ (oW hw 88 rfl)) (by decide) (backOf (W := 0) (rm9D2 l Z a0 hw [] b28 (1 : Int32) z1 f69 f70 (own_FF f48 f49) (own_EE f48 f49) h68j n0 Z68j H_am_68j (by rw [← hz1]; exact own_n1 _) (Nat.le_trans K0.1 (by decide)) K0.2) hZ (oW hw 90 rfl) (oW hw 3 rfl) (by decide) (by decide)) q71a q71c (g := (mkF m 335 #[oI p0, oI p1, oI p2, oI p3, oI p4, oI p5, oI z1, oI z2, oI z3, oI z4, oI z5, oI z6, .val (.int (p3 &&& (3 : Int32))), oI z7, oI z8, oI z9, oI z10, oI z11, oI z15, oI z19, oI z23, oI z27, oR b28, oI z52, oI z54, oI z58, oI z62, oI z64, oU, oU, oU, oU, oU] [(.int 1), (.ref b28)])) rfl (by rw [hml]; rfl) (Steps.refl _) (argsL := [(.int 1)]) (rest := []) (lenOf own_pd945 rfl) rfl (by show 2 * 0 + _ ≤ _; exact Nat.le_of_eq rfl) (hb hby at_335) (fun _ _ => ⟨rfl, e68, (by decide : 29 + 4 ≤ _), (by decide : 314 + 16 ≤ _)⟩)
         dsimp only [Pt.U, Pt.locs, Pt.cells, Pt.slots] at X71 l71 y71 z71 st71 hQ71
         replace y71 : 33 = k71 := y71.symm
         replace z71 : 330 = n71 := z71.symm
         subst y71 z71
         obtain ⟨rfl, N71q, sz71, H_rd_71⟩ := hQ71
         have N71 : Fr n0 L71 := by rw [l71]; exact Fr.app N68 N71q
         have Z71 : n0 ≤ T71.heap.size := Nat.le_trans Z68j sz71
         have Y71 : k29 ≤ T71.heap.size := Nat.le_trans Y68j sz71
         refine own_goW (fun tg k => st71.trans k) ?_
         show oG (T71.setTop (mkF m 338 #[oI p0, oI p1, oI p2, oI p3, oI p4, oI p5, oI z1, oI z2, oI z3, oI z4, oI z5, oI z6, .val (.int (p3 &&& (3 : Int32))), oI z7, oI z8, oI z9, oI z10, oI z11, oI z15, oI z19, oI z23, oI z27, oR b28, oI z52, oI z54, oI z58, oI z62, oI z64, oU, oU, oU, oU, oU] [(.int (own_dr f69 f70))]))
         refine own_goW (fun _ k => XS.pop X71.here hx rfl (hb hby at_338) rfl rfl (XS.aload X71.here hx rfl (hb hby at_339) rfl rfl (XS.iload X71.here hx rfl (hb hby at_341) rfl k))) ?_
         obtain ⟨cq72, kq72, q72a, q72b, q72c⟩ := isOf hZ rfl (own_exr H_rd_71)
         obtain ⟨_, _, ⟨T72, L72, k72, n72⟩, -, X72, ⟨Lc72, hQ72, l72, y72, z72⟩, st72⟩ := X71.virtualBack hx (y := oM25) (z := oM25) hown (mvT hZ (oW hw 171 rfl)) (mvT hZ (oW hw 172 rfl)) (notFace_of_selects (args := #[]) (mvT hZ (oW hw 174 rfl))) (mvT hZ (oW hw 174 rfl)) (mvT hZ (oW hw 173 rfl)) (by decide) (backOf (W := 0) (rm23H l Z a0 hw [] b28 z2 z1 (own_FF f69 f70) (own_EE f69 f70) T71.heap n0 Z71 H_rd_71 (by rw [← hz2]; rw [← hz1]; exact own_in2 _ _)) hZ (oW hw 175 rfl) (oW hw 3 rfl) (by decide) (by decide)) q72a q72c (g := (mkF m 343 #[oI p0, oI p1, oI p2, oI p3, oI p4, oI p5, oI z1, oI z2, oI z3, oI z4, oI z5, oI z6, .val (.int (p3 &&& (3 : Int32))), oI z7, oI z8, oI z9, oI z10, oI z11, oI z15, oI z19, oI z23, oI z27, oR b28, oI z52, oI z54, oI z58, oI z62, oI z64, oU, oU, oU, oU, oU] [(.int z2), (.ref b28)])) rfl (by rw [hml]; rfl) (Steps.refl _) (argsL := [(.int z2)]) (rest := []) (lenOf own_pd90 rfl) rfl (by show 2 * 0 + _ ≤ _; exact Nat.le_of_eq rfl) (hb hby at_343) (fun _ _ => ⟨rfl, rfl, (by decide : 33 + 0 ≤ _), (by decide : 330 + 0 ≤ _)⟩)
         dsimp only [Pt.U, Pt.locs, Pt.cells, Pt.slots] at X72 l72 y72 z72 st72 hQ72
         replace y72 : 33 = k72 := y72.symm
         replace z72 : 330 = n72 := z72.symm
         subst y72 z72
         obtain ⟨rfl, N72q, e72⟩ := hQ72
         have N72 : Fr n0 L72 := by rw [l72]; exact Fr.app N71 N72q
         refine own_goW (fun tg k => st72.trans k) ?_
         show oG (T72.setTop (mkF m 346 #[oI p0, oI p1, oI p2, oI p3, oI p4, oI p5, oI z1, oI z2, oI z3, oI z4, oI z5, oI z6, .val (.int (p3 &&& (3 : Int32))), oI z7, oI z8, oI z9, oI z10, oI z11, oI z15, oI z19, oI z23, oI z27, oR b28, oI z52, oI z54, oI z58, oI z62, oI z64, oU, oU, oU, oU, oU] [(.int ((own_FF f69 f70) z2.toNatClampNeg))]))
         refine own_goW (fun _ k => XS.istore X72.here hx rfl (hb hby at_346) rfl (l' := #[oI p0, oI p1, oI p2, oI p3, oI p4, oI p5, oI z1, oI z2, oI z3, oI z4, oI z5, oI z6, .val (.int (p3 &&& (3 : Int32))), oI z7, oI z8, oI z9, oI z10, oI z11, oI z15, oI z19, oI z23, oI z27, oR b28, oI z52, oI z54, oI z58, oI z62, oI z64, .val (.int ((own_FF f69 f70) z2.toNatClampNeg)), oU, oU, oU, oU]) rfl k) ?_
         show oG (T72.setTop (mkF m 348 #[oI p0, oI p1, oI p2, oI p3, oI p4, oI p5, oI z1, oI z2, oI z3, oI z4, oI z5, oI z6, .val (.int (p3 &&& (3 : Int32))), oI z7, oI z8, oI z9, oI z10, oI z11, oI z15, oI z19, oI z23, oI z27, oR b28, oI z52, oI z54, oI z58, oI z62, oI z64, .val (.int ((own_FF f69 f70) z2.toNatClampNeg)), oU, oU, oU, oU] []))
         generalize hz73 : ((own_FF f69 f70) z2.toNatClampNeg) = z73
         show oG (T72.setTop (mkF m 348 #[oI p0, oI p1, oI p2, oI p3, oI p4, oI p5, oI z1, oI z2, oI z3, oI z4, oI z5, oI z6, .val (.int (p3 &&& (3 : Int32))), oI z7, oI z8, oI z9, oI z10, oI z11, oI z15, oI z19, oI z23, oI z27, oR b28, oI z52, oI z54, oI z58, oI z62, oI z64, oI z73, oU, oU, oU, oU] []))
         refine own_goW (fun _ k => XS.aload X72.here hx rfl (hb hby at_348) rfl rfl (XS.iload X72.here hx rfl (hb hby at_350) rfl k)) ?_
         obtain ⟨cq74, kq74, q74a, q74b, q74c⟩ := isOf hZ e72 (own_exr H_rd_71)
         obtain ⟨_, _, ⟨T74, L74, k74, n74⟩, -, X74, ⟨Lc74, hQ74, l74, y74, z74⟩, st74⟩ := X72.virtualBack hx (y := oM26) (z := oM26) hown (mvT hZ (oW hw 176 rfl)) (mvT hZ (oW hw 177 rfl)) (notFace_of_selects (args := #[]) (mvT hZ (oW hw 179 rfl))) (mvT hZ (oW hw 179 rfl)) (mvT hZ (oW hw 178 rfl)) (by decide) (backOf (W := 0) (rm24H l Z a0 hw [] b28 z2 z1 (own_FF f69 f70) (own_EE f69 f70) T71.heap n0 Z71 H_rd_71 (by rw [← hz2]; rw [← hz1]; exact own_in2 _ _)) hZ (oW hw 180 rfl) (oW hw 3 rfl) (by decide) (by decide)) q74a q74c (g := (mkF m 352 #[oI p0, oI p1, oI p2, oI p3, oI p4, oI p5, oI z1, oI z2, oI z3, oI z4, oI z5, oI z6, .val (.int (p3 &&& (3 : Int32))), oI z7, oI z8, oI z9, oI z10, oI z11, oI z15, oI z19, oI z23, oI z27, oR b28, oI z52, oI z54, oI z58, oI z62, oI z64, oI z73, oU, oU, oU, oU] [(.int z2), (.ref b28)])) rfl (by rw [hml]; rfl) (Steps.refl _) (argsL := [(.int z2)]) (rest := []) (lenOf own_pd90 rfl) rfl (by show 2 * 0 + _ ≤ _; exact Nat.le_of_eq rfl) (hb hby at_352) (fun _ _ => ⟨rfl, e72, (by decide : 33 + 0 ≤ _), (by decide : 330 + 0 ≤ _)⟩)
         dsimp only [Pt.U, Pt.locs, Pt.cells, Pt.slots] at X74 l74 y74 z74 st74 hQ74
         replace y74 : 33 = k74 := y74.symm
         replace z74 : 330 = n74 := z74.symm
         subst y74 z74
         obtain ⟨rfl, N74q, e74⟩ := hQ74
         have N74 : Fr n0 L74 := by rw [l74]; exact Fr.app N72 N74q
         refine own_goW (fun tg k => st74.trans k) ?_
         show oG (T74.setTop (mkF m 355 #[oI p0, oI p1, oI p2, oI p3, oI p4, oI p5, oI z1, oI z2, oI z3, oI z4, oI z5, oI z6, .val (.int (p3 &&& (3 : Int32))), oI z7, oI z8, oI z9, oI z10, oI z11, oI z15, oI z19, oI z23, oI z27, oR b28, oI z52, oI z54, oI z58, oI z62, oI z64, oI z73, oU, oU, oU, oU] [(.int ((own_EE f69 f70) z2.toNatClampNeg))]))
         refine own_goW (fun _ k => XS.istore X74.here hx rfl (hb hby at_355) rfl (l' := #[oI p0, oI p1, oI p2, oI p3, oI p4, oI p5, oI z1, oI z2, oI z3, oI z4, oI z5, oI z6, .val (.int (p3 &&& (3 : Int32))), oI z7, oI z8, oI z9, oI z10, oI z11, oI z15, oI z19, oI z23, oI z27, oR b28, oI z52, oI z54, oI z58, oI z62, oI z64, oI z73, .val (.int ((own_EE f69 f70) z2.toNatClampNeg)), oU, oU, oU]) rfl k) ?_
         show oG (T74.setTop (mkF m 357 #[oI p0, oI p1, oI p2, oI p3, oI p4, oI p5, oI z1, oI z2, oI z3, oI z4, oI z5, oI z6, .val (.int (p3 &&& (3 : Int32))), oI z7, oI z8, oI z9, oI z10, oI z11, oI z15, oI z19, oI z23, oI z27, oR b28, oI z52, oI z54, oI z58, oI z62, oI z64, oI z73, .val (.int ((own_EE f69 f70) z2.toNatClampNeg)), oU, oU, oU] []))
         generalize hz75 : ((own_EE f69 f70) z2.toNatClampNeg) = z75
         show oG (T74.setTop (mkF m 357 #[oI p0, oI p1, oI p2, oI p3, oI p4, oI p5, oI z1, oI z2, oI z3, oI z4, oI z5, oI z6, .val (.int (p3 &&& (3 : Int32))), oI z7, oI z8, oI z9, oI z10, oI z11, oI z15, oI z19, oI z23, oI z27, oR b28, oI z52, oI z54, oI z58, oI z62, oI z64, oI z73, oI z75, oU, oU, oU] []))
         refine own_goW (fun _ k => XS.iload X74.here hx rfl (hb hby at_357) rfl (XS.iload X74.here hx rfl (hb hby at_359) rfl (XS.iload X74.here hx rfl (hb hby at_361) rfl k))) ?_
         obtain ⟨_, _, ⟨T76, L76, k76, n76⟩, -, X76, ⟨Lc76, hQ76, l76, y76, z76⟩, st76⟩ := Jvm.LawKit.callS X74 hx (y := oM28) hown (mvT hZ (oW hw 181 rfl)) (mvT hZ (oW hw 182 rfl)) (mvT hZ (oW hw 183 rfl)) (mvT hZ (oW hw 184 rfl)) (by decide) (backOf (W := 0) (rm25 l Z a0 hw [] z27 z6 z2 T71.heap n0 Z71) hZ (oW hw 184 rfl) (oW hw 183 rfl) (by decide) (by decide)) (g := (mkF m 363 #[oI p0, oI p1, oI p2, oI p3, oI p4, oI p5, oI z1, oI z2, oI z3, oI z4, oI z5, oI z6, .val (.int (p3 &&& (3 : Int32))), oI z7, oI z8, oI z9, oI z10, oI z11, oI z15, oI z19, oI z23, oI z27, oR b28, oI z52, oI z54, oI z58, oI z62, oI z64, oI z73, oI z75, oU, oU, oU] [(.int z2), (.int z6), (.int z27)])) rfl (by rw [hml]; rfl) (argsL := [(.int z27), (.int z6), (.int z2)]) (rest := []) (lenOf own_pd946 rfl) rfl (by show 2 * 0 + _ ≤ _; exact Nat.le_of_eq rfl) (hb hby at_363) (fun _ _ => ⟨rfl, e74, (by decide : 33 + 0 ≤ _), (by decide : 330 + 0 ≤ _)⟩)
         dsimp only [Pt.U, Pt.locs, Pt.cells, Pt.slots] at X76 l76 y76 z76 st76 hQ76
         replace y76 : 33 = k76 := y76.symm
         replace z76 : 330 = n76 := z76.symm
         subst y76 z76
         obtain ⟨rfl, N76q, e76⟩ := hQ76
         have N76 : Fr n0 L76 := by rw [l76]; exact Fr.app N74 N76q
         refine own_goW (fun tg k => st76 tg k) ?_
         show oG (T76.setTop (mkF m 366 #[oI p0, oI p1, oI p2, oI p3, oI p4, oI p5, oI z1, oI z2, oI z3, oI z4, oI z5, oI z6, .val (.int (p3 &&& (3 : Int32))), oI z7, oI z8, oI z9, oI z10, oI z11, oI z15, oI z19, oI z23, oI z27, oR b28, oI z52, oI z54, oI z58, oI z62, oI z64, oI z73, oI z75, oU, oU, oU] [(.int (own_f25 z27 z6 z2))]))
         refine own_goW (fun _ k => XS.istore X76.here hx rfl (hb hby at_366) rfl (l' := #[oI p0, oI p1, oI p2, oI p3, oI p4, oI p5, oI z1, oI z2, oI z3, oI z4, oI z5, oI z6, .val (.int (p3 &&& (3 : Int32))), oI z7, oI z8, oI z9, oI z10, oI z11, oI z15, oI z19, oI z23, oI z27, oR b28, oI z52, oI z54, oI z58, oI z62, oI z64, oI z73, oI z75, .val (.int (own_f25 z27 z6 z2)), oU, oU]) rfl (XS.iload X76.here hx rfl (hb hby at_368) rfl (XS.iload X76.here hx rfl (hb hby at_370) rfl (XS.iload X76.here hx rfl (hb hby at_372) rfl k)))) ?_
         obtain ⟨_, _, ⟨T77, L77, k77, n77⟩, -, X77, ⟨Lc77, hQ77, l77, y77, z77⟩, st77⟩ := Jvm.LawKit.callS X76 hx (y := oM29) hown (mvT hZ (oW hw 185 rfl)) (mvT hZ (oW hw 186 rfl)) (mvT hZ (oW hw 183 rfl)) (mvT hZ (oW hw 187 rfl)) (by decide) (backOf (W := 0) (rm26 l Z a0 hw [] z27 z6 z2 T71.heap n0 Z71) hZ (oW hw 187 rfl) (oW hw 183 rfl) (by decide) (by decide)) (g := (mkF m 374 #[oI p0, oI p1, oI p2, oI p3, oI p4, oI p5, oI z1, oI z2, oI z3, oI z4, oI z5, oI z6, .val (.int (p3 &&& (3 : Int32))), oI z7, oI z8, oI z9, oI z10, oI z11, oI z15, oI z19, oI z23, oI z27, oR b28, oI z52, oI z54, oI z58, oI z62, oI z64, oI z73, oI z75, .val (.int (own_f25 z27 z6 z2)), oU, oU] [(.int z2), (.int z6), (.int z27)])) rfl (by rw [hml]; rfl) (argsL := [(.int z27), (.int z6), (.int z2)]) (rest := []) (lenOf own_pd946 rfl) rfl (by show 2 * 0 + _ ≤ _; exact Nat.le_of_eq rfl) (hb hby at_374) (fun _ _ => ⟨rfl, e76, (by decide : 33 + 0 ≤ _), (by decide : 330 + 0 ≤ _)⟩)
         dsimp only [Pt.U, Pt.locs, Pt.cells, Pt.slots] at X77 l77 y77 z77 st77 hQ77
         replace y77 : 33 = k77 := y77.symm
         replace z77 : 330 = n77 := z77.symm
         subst y77 z77
         obtain ⟨rfl, N77q, e77⟩ := hQ77
         have N77 : Fr n0 L77 := by rw [l77]; exact Fr.app N76 N77q
         refine own_goW (fun tg k => st77 tg k) ?_
         show oG (T77.setTop (mkF m 377 #[oI p0, oI p1, oI p2, oI p3, oI p4, oI p5, oI z1, oI z2, oI z3, oI z4, oI z5, oI z6, .val (.int (p3 &&& (3 : Int32))), oI z7, oI z8, oI z9, oI z10, oI z11, oI z15, oI z19, oI z23, oI z27, oR b28, oI z52, oI z54, oI z58, oI z62, oI z64, oI z73, oI z75, .val (.int (own_f25 z27 z6 z2)), oU, oU] [(.int (own_f26 z27 z6 z2))]))
         refine own_goW (fun _ k => XS.istore X77.here hx rfl (hb hby at_377) rfl (l' := #[oI p0, oI p1, oI p2, oI p3, oI p4, oI p5, oI z1, oI z2, oI z3, oI z4, oI z5, oI z6, .val (.int (p3 &&& (3 : Int32))), oI z7, oI z8, oI z9, oI z10, oI z11, oI z15, oI z19, oI z23, oI z27, oR b28, oI z52, oI z54, oI z58, oI z62, oI z64, oI z73, oI z75, .val (.int (own_f25 z27 z6 z2)), .val (.int (own_f26 z27 z6 z2)), oU]) rfl (XS.iload X77.here hx rfl (hb hby at_379) rfl (XS.iload X77.here hx rfl (hb hby at_381) rfl (XS.iload X77.here hx rfl (hb hby at_383) rfl (XS.iload X77.here hx rfl (hb hby at_385) rfl (XS.iload X77.here hx rfl (hb hby at_387) rfl k)))))) ?_
         obtain ⟨_, _, ⟨T78, L78, k78, n78⟩, -, X78, ⟨Lc78, hQ78, l78, y78, z78⟩, st78⟩ := Jvm.LawKit.callS X77 hx (y := oM30) hown (mvT hZ (oW hw 188 rfl)) (mvT hZ (oW hw 189 rfl)) (mvT hZ (oW hw 183 rfl)) (mvT hZ (oW hw 190 rfl)) (by decide) (backOf (W := 0) (rm27 l Z a0 hw [] z73 z75 (own_f25 z27 z6 z2) (own_f26 z27 z6 z2) z7 T71.heap n0 Z71) hZ (oW hw 190 rfl) (oW hw 183 rfl) (by decide) (by decide)) (g := (mkF m 389 #[oI p0, oI p1, oI p2, oI p3, oI p4, oI p5, oI z1, oI z2, oI z3, oI z4, oI z5, oI z6, .val (.int (p3 &&& (3 : Int32))), oI z7, oI z8, oI z9, oI z10, oI z11, oI z15, oI z19, oI z23, oI z27, oR b28, oI z52, oI z54, oI z58, oI z62, oI z64, oI z73, oI z75, .val (.int (own_f25 z27 z6 z2)), .val (.int (own_f26 z27 z6 z2)), oU] [(.int z7), (.int (own_f26 z27 z6 z2)), (.int (own_f25 z27 z6 z2)), (.int z75), (.int z73)])) rfl (by rw [hml]; rfl) (argsL := [(.int z73), (.int z75), (.int (own_f25 z27 z6 z2)), (.int (own_f26 z27 z6 z2)), (.int z7)]) (rest := []) (lenOf own_pd947 rfl) rfl (by show 2 * 0 + _ ≤ _; exact Nat.le_of_eq rfl) (hb hby at_389) (fun _ _ => ⟨rfl, e77, (by decide : 33 + 0 ≤ _), (by decide : 330 + 0 ≤ _)⟩)
         dsimp only [Pt.U, Pt.locs, Pt.cells, Pt.slots] at X78 l78 y78 z78 st78 hQ78
         replace y78 : 33 = k78 := y78.symm
         replace z78 : 330 = n78 := z78.symm
         subst y78 z78
         obtain ⟨rfl, N78q, e78⟩ := hQ78
         have N78 : Fr n0 L78 := by rw [l78]; exact Fr.app N77 N78q
         refine own_goW (fun tg k => st78 tg k) ?_
         show oG (T78.setTop (mkF m 392 #[oI p0, oI p1, oI p2, oI p3, oI p4, oI p5, oI z1, oI z2, oI z3, oI z4, oI z5, oI z6, .val (.int (p3 &&& (3 : Int32))), oI z7, oI z8, oI z9, oI z10, oI z11, oI z15, oI z19, oI z23, oI z27, oR b28, oI z52, oI z54, oI z58, oI z62, oI z64, oI z73, oI z75, .val (.int (own_f25 z27 z6 z2)), .val (.int (own_f26 z27 z6 z2)), oU] [(.int (own_f27 z73 z75 (own_f25 z27 z6 z2) (own_f26 z27 z6 z2) z7))]))
         refine own_goW (fun _ k => XS.istore X78.here hx rfl (hb hby at_392) rfl (l' := #[oI p0, oI p1, oI p2, oI p3, oI p4, oI p5, oI z1, oI z2, oI z3, oI z4, oI z5, oI z6, .val (.int (p3 &&& (3 : Int32))), oI z7, oI z8, oI z9, oI z10, oI z11, oI z15, oI z19, oI z23, oI z27, oR b28, oI z52, oI z54, oI z58, oI z62, oI z64, oI z73, oI z75, .val (.int (own_f25 z27 z6 z2)), .val (.int (own_f26 z27 z6 z2)), .val (.int (own_f27 z73 z75 (own_f25 z27 z6 z2) (own_f26 z27 z6 z2) z7))]) rfl k) ?_
         show oG (T78.setTop (mkF m 394 #[oI p0, oI p1, oI p2, oI p3, oI p4, oI p5, oI z1, oI z2, oI z3, oI z4, oI z5, oI z6, .val (.int (p3 &&& (3 : Int32))), oI z7, oI z8, oI z9, oI z10, oI z11, oI z15, oI z19, oI z23, oI z27, oR b28, oI z52, oI z54, oI z58, oI z62, oI z64, oI z73, oI z75, .val (.int (own_f25 z27 z6 z2)), .val (.int (own_f26 z27 z6 z2)), .val (.int (own_f27 z73 z75 (own_f25 z27 z6 z2) (own_f26 z27 z6 z2) z7))] []))
         generalize hz79 : (own_f27 z73 z75 (own_f25 z27 z6 z2) (own_f26 z27 z6 z2) z7) = z79
         show oG (T78.setTop (mkF m 394 #[oI p0, oI p1, oI p2, oI p3, oI p4, oI p5, oI z1, oI z2, oI z3, oI z4, oI z5, oI z6, .val (.int (p3 &&& (3 : Int32))), oI z7, oI z8, oI z9, oI z10, oI z11, oI z15, oI z19, oI z23, oI z27, oR b28, oI z52, oI z54, oI z58, oI z62, oI z64, oI z73, oI z75, .val (.int (own_f25 z27 z6 z2)), .val (.int (own_f26 z27 z6 z2)), oI z79] []))
         refine own_goW (fun _ k => XS.iload X78.here hx rfl (hb hby at_394) rfl k) ?_
         by_cases hc80 : z64 = (0 : Int32)
         · refine own_goW (fun _ k => XS.ifYes X78.here hx rfl (pc0 := 396) (pc' := 408) rfl (hb hby at_396) rfl ((if0 _ _).trans (teq hc80).1) (by decide) (by decide) (XS.iconst X78.here hx rfl (hb hby at_408) k)) ?_
           refine own_retW X78 hx hlk hS29 (by rw [e78]; exact Y71) Bd.returns rfl (Or.inl ⟨rfl, by simp, _, rfl⟩) (hb hby at_409) (Nat.le_of_ble_eq_true rfl) (Nat.le_of_ble_eq_true rfl) (own_chO X78 hS29) ?_
           exact ⟨(own_lf_own_f0_1 (p0 := p0) (p1 := p1) (p2 := p2) (p3 := p3) (p4 := p4) (p5 := p5) hz1 hz2 hz3 hz4 hz5 hz8 hz9 hz10 hz15 hz19 hz23 hf36 hf37 hf42 hf43 hf48 hf49 hz52 hz54 hz58 hz62 hz64 hc80), N78, trivial⟩
         · refine own_goW (fun _ k => XS.ifNo X78.here hx rfl (hb hby at_396) rfl ((if0 _ _).trans (feq hc80).1) (XS.iload X78.here hx rfl (hb hby at_399) rfl k)) ?_
           by_cases hc81 : z79 = (0 : Int32)
           · refine own_goW (fun _ k => XS.ifYes X78.here hx rfl (pc0 := 401) (pc' := 408) rfl (hb hby at_401) rfl ((if0 _ _).trans (teq hc81).1) (by decide) (by decide) (XS.iconst X78.here hx rfl (hb hby at_408) k)) ?_
             refine own_retW X78 hx hlk hS29 (by rw [e78]; exact Y71) Bd.returns rfl (Or.inl ⟨rfl, by simp, _, rfl⟩) (hb hby at_409) (Nat.le_of_ble_eq_true rfl) (Nat.le_of_ble_eq_true rfl) (own_chO X78 hS29) ?_
             exact ⟨(own_lf_own_f0_2 (p0 := p0) (p1 := p1) (p2 := p2) (p3 := p3) (p4 := p4) (p5 := p5) hz1 hz2 hz3 hz4 hz5 hz6 hz7 hz8 hz9 hz10 hz11 hz15 hz19 hz23 hz27 hf36 hf37 hf42 hf43 hf48 hf49 hz52 hz54 hz58 hz62 hz64 hf69 hf70 hz73 hz75 hz79 hc80 hc81), N78, trivial⟩
           · refine own_goW (fun _ k => XS.ifNo X78.here hx rfl (hb hby at_401) rfl ((if0 _ _).trans (feq hc81).1) (XS.iconst X78.here hx rfl (hb hby at_404) (XS.goto X78.here hx rfl (pc0 := 405) (pc' := 409) rfl (hb hby at_405) (by decide) (by decide) k))) ?_
             refine own_retW X78 hx hlk hS29 (by rw [e78]; exact Y71) Bd.returns rfl (Or.inl ⟨rfl, by simp, _, rfl⟩) (hb hby at_409) (Nat.le_of_ble_eq_true rfl) (Nat.le_of_ble_eq_true rfl) (own_chO X78 hS29) ?_
             exact ⟨(own_lf_own_f0_3 (p0 := p0) (p1 := p1) (p2 := p2) (p3 := p3) (p4 := p4) (p5 := p5) hz1 hz2 hz3 hz4 hz5 hz6 hz7 hz8 hz9 hz10 hz11 hz15 hz19 hz23 hz27 hf36 hf37 hf42 hf43 hf48 hf49 hz52 hz54 hz58 hz62 hz64 hf69 hf70 hz73 hz75 hz79 hc80 hc81), N78, trivial⟩
        by_cases hc65 : z27 = (0 : Int32)
        · refine own_goW (fun _ k => XS.ifYes X63.here hx rfl (pc0 := 316) (pc' := 332) rfl (hb hby at_316) rfl ((if0 _ _).trans (teq hc65).1) (by decide) (by decide) k) ?_
          show oG (T63.setTop (mkF m 332 #[oI p0, oI p1, oI p2, oI p3, oI p4, oI p5, oI z1, oI z2, oI z3, oI z4, oI z5, oI z6, .val (.int (p3 &&& (3 : Int32))), oI z7, oI z8, oI z9, oI z10, oI z11, oI z15, oI z19, oI z23, oI z27, oR b28, oI z52, oI z54, oI z58, oI z62, oI z64, oU, oU, oU, oU, oU] []))
          have kj := hk66 T63 _ T50.heap (own_mono X63 (by decide) (by decide)) N63 e63 Z50 Y50 (by simp only [if_pos hc65]; exact H_am_50)
          simpa only [if_pos hc65] using kj
        · refine own_goW (fun _ k => XS.ifNo X63.here hx rfl (hb hby at_316) rfl ((if0 _ _).trans (feq hc65).1) (XS.aload X63.here hx rfl (hb hby at_319) rfl rfl (XS.iload X63.here hx rfl (hb hby at_321) rfl (XS.iload X63.here hx rfl (hb hby at_323) rfl (XS.iload X63.here hx rfl (hb hby at_325) rfl (XS.iloadN X63.here hx rfl (hb hby at_327) rfl (XS.i2l X63.here hx rfl (hb hby at_328) rfl k))))))) ?_
          show oG (T63.setTop (mkF m 329 #[oI p0, oI p1, oI p2, oI p3, oI p4, oI p5, oI z1, oI z2, oI z3, oI z4, oI z5, oI z6, .val (.int (p3 &&& (3 : Int32))), oI z7, oI z8, oI z9, oI z10, oI z11, oI z15, oI z19, oI z23, oI z27, oR b28, oI z52, oI z54, oI z58, oI z62, oI z64, oU, oU, oU, oU, oU] [(.long (p3.toInt64)), (.int z6), (.int p4), (.int z11), (.ref b28)]))
          obtain ⟨cq67, kq67, q67a, q67b, q67c⟩ := isOf hZ e63 (own_exx H_am_50)
          obtain ⟨_, _, ⟨T67, L67, k67, n67⟩, -, X67, ⟨Lc67, hQ67, l67, y67, z67⟩, st67⟩ := X63.virtualBack hx (y := oM23) (z := oM23) hown (mvT hZ (oW hw 59 rfl)) (mvT hZ (oW hw 60 rfl)) (notFace_of_selects (args := #[]) (mvT hZ (oW hw 62 rfl))) (mvT hZ (oW hw 62 rfl)) (mvT hZ (oW hw 61 rfl)) (by decide) (backOf (W := 0) (rm6Hx l Z a0 hw [] b28 z11 p4 z6 (p3.toInt64) z1 [] [] (own_FF f48 f49) (own_EE f48 f49) T50.heap n0 Z50 H_am_50 (by rw [← hz11]; exact own_b01 _) (Nat.le_trans (own_J0 z1).1 (by decide))) hZ (oW hw 63 rfl) (oW hw 3 rfl) (by decide) (by decide)) q67a q67c (g := (mkF m 329 #[oI p0, oI p1, oI p2, oI p3, oI p4, oI p5, oI z1, oI z2, oI z3, oI z4, oI z5, oI z6, .val (.int (p3 &&& (3 : Int32))), oI z7, oI z8, oI z9, oI z10, oI z11, oI z15, oI z19, oI z23, oI z27, oR b28, oI z52, oI z54, oI z58, oI z62, oI z64, oU, oU, oU, oU, oU] [(.long (p3.toInt64)), (.int z6), (.int p4), (.int z11), (.ref b28)])) rfl (by rw [hml]; rfl) (Steps.refl _) (argsL := [(.int z11), (.int p4), (.int z6), (.long (p3.toInt64))]) (rest := []) (lenOf own_pd944 rfl) rfl (by show 2 * 0 + _ ≤ _; exact Nat.le_of_eq rfl) (hb hby at_329) (fun _ _ => ⟨rfl, e63, (by decide : 25 + 4 ≤ _), (by decide : 261 + 53 ≤ _)⟩)
          dsimp only [Pt.U, Pt.locs, Pt.cells, Pt.slots] at X67 l67 y67 z67 st67 hQ67
          replace y67 : 29 = k67 := y67.symm
          replace z67 : 314 = n67 := z67.symm
          subst y67 z67
          obtain ⟨rfl, N67q, sz67, H_am_67⟩ := hQ67
          have N67 : Fr n0 L67 := by rw [l67]; exact Fr.app N63 N67q
          have Z67 : n0 ≤ T67.heap.size := Nat.le_trans Z50 sz67
          have Y67 : k29 ≤ T67.heap.size := Nat.le_trans Y50 sz67
          refine own_goW (fun tg k => st67.trans k) ?_
          show oG (T67.setTop (mkF m 332 #[oI p0, oI p1, oI p2, oI p3, oI p4, oI p5, oI z1, oI z2, oI z3, oI z4, oI z5, oI z6, .val (.int (p3 &&& (3 : Int32))), oI z7, oI z8, oI z9, oI z10, oI z11, oI z15, oI z19, oI z23, oI z27, oR b28, oI z52, oI z54, oI z58, oI z62, oI z64, oU, oU, oU, oU, oU] []))
          have kj := hk66 T67 _ T67.heap (own_mono X67 (by decide) (by decide)) N67 rfl Z67 Y67 (by simp only [if_neg hc65]; exact H_am_67)
          simpa only [if_neg hc65] using kj
       by_cases hc44 : z23 = (0 : Int32)
       · refine own_goW (fun _ k => XS.ifYes X41.here hx rfl (pc0 := 196) (pc' := 212) rfl (hb hby at_196) rfl ((if0 _ _).trans (teq hc44).1) (by decide) (by decide) k) ?_
         show oG (T41.setTop (mkF m 212 #[oI p0, oI p1, oI p2, oI p3, oI p4, oI p5, oI z1, oI z2, oI z3, oI z4, oI z5, oI z6, .val (.int (p3 &&& (3 : Int32))), oI z7, oI z8, oI z9, oI z10, oI z11, oI z15, oI z19, oI z23, oI z27, oR b28, oU, oU, oU, oU, oU, oU, oU, oU, oU, oU] []))
         have kj := hk45 T41 _ h41j (own_mono X41 (by decide) (by decide)) N41 e41 Z41j Y41j (by simp only [if_pos hc44]; exact H_am_41j)
         simpa only [if_pos hc44] using kj
       · refine own_goW (fun _ k => XS.ifNo X41.here hx rfl (hb hby at_196) rfl ((if0 _ _).trans (feq hc44).1) (XS.aload X41.here hx rfl (hb hby at_199) rfl rfl (XS.iload X41.here hx rfl (hb hby at_201) rfl (XS.iload X41.here hx rfl (hb hby at_203) rfl (XS.iload X41.here hx rfl (hb hby at_205) rfl (XS.iloadN X41.here hx rfl (hb hby at_207) rfl (XS.i2l X41.here hx rfl (hb hby at_208) rfl k))))))) ?_
         show oG (T41.setTop (mkF m 209 #[oI p0, oI p1, oI p2, oI p3, oI p4, oI p5, oI z1, oI z2, oI z3, oI z4, oI z5, oI z6, .val (.int (p3 &&& (3 : Int32))), oI z7, oI z8, oI z9, oI z10, oI z11, oI z15, oI z19, oI z23, oI z27, oR b28, oU, oU, oU, oU, oU, oU, oU, oU, oU, oU] [(.long (p2.toInt64)), (.int z5), (.int p4), (.int z10), (.ref b28)]))
         obtain ⟨cq46, kq46, q46a, q46b, q46c⟩ := isOf hZ e41 (own_exf H_am_41j)
         obtain ⟨_, _, ⟨T46, L46, k46, n46⟩, -, X46, ⟨Lc46, hQ46, l46, y46, z46⟩, st46⟩ := X41.virtualBack hx (y := oM23) (z := oM23) hown (mvT hZ (oW hw 59 rfl)) (mvT hZ (oW hw 60 rfl)) (notFace_of_selects (args := #[]) (mvT hZ (oW hw 62 rfl))) (mvT hZ (oW hw 62 rfl)) (mvT hZ (oW hw 61 rfl)) (by decide) (backOf (W := 0) (rm6Hf l Z a0 hw [] b28 z10 p4 z5 (p2.toInt64) z1 f42 f43 h41j n0 Z41j H_am_41j (by rw [← hz10]; exact own_b01 _) (Nat.le_trans J1.1 (by decide))) hZ (oW hw 63 rfl) (oW hw 3 rfl) (by decide) (by decide)) q46a q46c (g := (mkF m 209 #[oI p0, oI p1, oI p2, oI p3, oI p4, oI p5, oI z1, oI z2, oI z3, oI z4, oI z5, oI z6, .val (.int (p3 &&& (3 : Int32))), oI z7, oI z8, oI z9, oI z10, oI z11, oI z15, oI z19, oI z23, oI z27, oR b28, oU, oU, oU, oU, oU, oU, oU, oU, oU, oU] [(.long (p2.toInt64)), (.int z5), (.int p4), (.int z10), (.ref b28)])) rfl (by rw [hml]; rfl) (Steps.refl _) (argsL := [(.int z10), (.int p4), (.int z5), (.long (p2.toInt64))]) (rest := []) (lenOf own_pd944 rfl) rfl (by show 2 * 0 + _ ≤ _; exact Nat.le_of_eq rfl) (hb hby at_209) (fun _ _ => ⟨rfl, e41, (by decide : 17 + 4 ≤ _), (by decide : 192 + 53 ≤ _)⟩)
         dsimp only [Pt.U, Pt.locs, Pt.cells, Pt.slots] at X46 l46 y46 z46 st46 hQ46
         replace y46 : 21 = k46 := y46.symm
         replace z46 : 245 = n46 := z46.symm
         subst y46 z46
         obtain ⟨rfl, N46q, sz46, H_am_46⟩ := hQ46
         have N46 : Fr n0 L46 := by rw [l46]; exact Fr.app N41 N46q
         have Z46 : n0 ≤ T46.heap.size := Nat.le_trans Z41j sz46
         have Y46 : k29 ≤ T46.heap.size := Nat.le_trans Y41j sz46
         refine own_goW (fun tg k => st46.trans k) ?_
         show oG (T46.setTop (mkF m 212 #[oI p0, oI p1, oI p2, oI p3, oI p4, oI p5, oI z1, oI z2, oI z3, oI z4, oI z5, oI z6, .val (.int (p3 &&& (3 : Int32))), oI z7, oI z8, oI z9, oI z10, oI z11, oI z15, oI z19, oI z23, oI z27, oR b28, oU, oU, oU, oU, oU, oU, oU, oU, oU, oU] []))
         have kj := hk45 T46 _ T46.heap (own_mono X46 (by decide) (by decide)) N46 rfl Z46 Y46 (by simp only [if_neg hc44]; exact H_am_46)
         simpa only [if_neg hc44] using kj
      by_cases hc38 : z19 = (0 : Int32)
      · refine own_goW (fun _ k => XS.ifYes X35.here hx rfl (pc0 := 178) (pc' := 194) rfl (hb hby at_178) rfl ((if0 _ _).trans (teq hc38).1) (by decide) (by decide) k) ?_
        show oG (T35.setTop (mkF m 194 #[oI p0, oI p1, oI p2, oI p3, oI p4, oI p5, oI z1, oI z2, oI z3, oI z4, oI z5, oI z6, .val (.int (p3 &&& (3 : Int32))), oI z7, oI z8, oI z9, oI z10, oI z11, oI z15, oI z19, oI z23, oI z27, oR b28, oU, oU, oU, oU, oU, oU, oU, oU, oU, oU] []))
        have kj := hk39 T35 _ h35j (own_mono X35 (by decide) (by decide)) N35 e35 Z35j Y35j (by simp only [if_pos hc38]; exact H_am_35j)
        simpa only [if_pos hc38] using kj
      · refine own_goW (fun _ k => XS.ifNo X35.here hx rfl (hb hby at_178) rfl ((if0 _ _).trans (feq hc38).1) (XS.aload X35.here hx rfl (hb hby at_181) rfl rfl (XS.iload X35.here hx rfl (hb hby at_183) rfl (XS.iload X35.here hx rfl (hb hby at_185) rfl (XS.iload X35.here hx rfl (hb hby at_187) rfl (XS.iloadN X35.here hx rfl (hb hby at_189) rfl (XS.i2l X35.here hx rfl (hb hby at_190) rfl k))))))) ?_
        show oG (T35.setTop (mkF m 191 #[oI p0, oI p1, oI p2, oI p3, oI p4, oI p5, oI z1, oI z2, oI z3, oI z4, oI z5, oI z6, .val (.int (p3 &&& (3 : Int32))), oI z7, oI z8, oI z9, oI z10, oI z11, oI z15, oI z19, oI z23, oI z27, oR b28, oU, oU, oU, oU, oU, oU, oU, oU, oU, oU] [(.long (p1.toInt64)), (.int z4), (.int p4), (.int z9), (.ref b28)]))
        obtain ⟨cq40, kq40, q40a, q40b, q40c⟩ := isOf hZ e35 (own_exf H_am_35j)
        obtain ⟨_, _, ⟨T40, L40, k40, n40⟩, -, X40, ⟨Lc40, hQ40, l40, y40, z40⟩, st40⟩ := X35.virtualBack hx (y := oM23) (z := oM23) hown (mvT hZ (oW hw 59 rfl)) (mvT hZ (oW hw 60 rfl)) (notFace_of_selects (args := #[]) (mvT hZ (oW hw 62 rfl))) (mvT hZ (oW hw 62 rfl)) (mvT hZ (oW hw 61 rfl)) (by decide) (backOf (W := 0) (rm6Hf l Z a0 hw [] b28 z9 p4 z4 (p1.toInt64) z1 f36 f37 h35j n0 Z35j H_am_35j (by rw [← hz9]; exact own_b01 _) (Nat.le_trans J0.1 (by decide))) hZ (oW hw 63 rfl) (oW hw 3 rfl) (by decide) (by decide)) q40a q40c (g := (mkF m 191 #[oI p0, oI p1, oI p2, oI p3, oI p4, oI p5, oI z1, oI z2, oI z3, oI z4, oI z5, oI z6, .val (.int (p3 &&& (3 : Int32))), oI z7, oI z8, oI z9, oI z10, oI z11, oI z15, oI z19, oI z23, oI z27, oR b28, oU, oU, oU, oU, oU, oU, oU, oU, oU, oU] [(.long (p1.toInt64)), (.int z4), (.int p4), (.int z9), (.ref b28)])) rfl (by rw [hml]; rfl) (Steps.refl _) (argsL := [(.int z9), (.int p4), (.int z4), (.long (p1.toInt64))]) (rest := []) (lenOf own_pd944 rfl) rfl (by show 2 * 0 + _ ≤ _; exact Nat.le_of_eq rfl) (hb hby at_191) (fun _ _ => ⟨rfl, e35, (by decide : 13 + 4 ≤ _), (by decide : 139 + 53 ≤ _)⟩)
        dsimp only [Pt.U, Pt.locs, Pt.cells, Pt.slots] at X40 l40 y40 z40 st40 hQ40
        replace y40 : 17 = k40 := y40.symm
        replace z40 : 192 = n40 := z40.symm
        subst y40 z40
        obtain ⟨rfl, N40q, sz40, H_am_40⟩ := hQ40
        have N40 : Fr n0 L40 := by rw [l40]; exact Fr.app N35 N40q
        have Z40 : n0 ≤ T40.heap.size := Nat.le_trans Z35j sz40
        have Y40 : k29 ≤ T40.heap.size := Nat.le_trans Y35j sz40
        refine own_goW (fun tg k => st40.trans k) ?_
        show oG (T40.setTop (mkF m 194 #[oI p0, oI p1, oI p2, oI p3, oI p4, oI p5, oI z1, oI z2, oI z3, oI z4, oI z5, oI z6, .val (.int (p3 &&& (3 : Int32))), oI z7, oI z8, oI z9, oI z10, oI z11, oI z15, oI z19, oI z23, oI z27, oR b28, oU, oU, oU, oU, oU, oU, oU, oU, oU, oU] []))
        have kj := hk39 T40 _ T40.heap (own_mono X40 (by decide) (by decide)) N40 rfl Z40 Y40 (by simp only [if_neg hc38]; exact H_am_40)
        simpa only [if_neg hc38] using kj
     by_cases hc32 : z15 = (0 : Int32)
     · refine own_goW (fun _ k => XS.ifYes X30.here hx rfl (pc0 := 160) (pc' := 176) rfl (hb hby at_160) rfl ((if0 _ _).trans (teq hc32).1) (by decide) (by decide) k) ?_
       show oG (T30.setTop (mkF m 176 #[oI p0, oI p1, oI p2, oI p3, oI p4, oI p5, oI z1, oI z2, oI z3, oI z4, oI z5, oI z6, .val (.int (p3 &&& (3 : Int32))), oI z7, oI z8, oI z9, oI z10, oI z11, oI z15, oI z19, oI z23, oI z27, oR b28, oU, oU, oU, oU, oU, oU, oU, oU, oU, oU] []))
       have kj := hk33 T30 _ T30.heap (own_mono X30 (by decide) (by decide)) N30 rfl Z30 Y30 (by simp only [if_pos hc32]; exact H_am_31)
       simpa only [if_pos hc32] using kj
     · refine own_goW (fun _ k => XS.ifNo X30.here hx rfl (hb hby at_160) rfl ((if0 _ _).trans (feq hc32).1) (XS.aload X30.here hx rfl (hb hby at_163) rfl rfl (XS.iload X30.here hx rfl (hb hby at_165) rfl (XS.iload X30.here hx rfl (hb hby at_167) rfl (XS.iload X30.here hx rfl (hb hby at_169) rfl (XS.iloadN X30.here hx rfl (hb hby at_171) rfl (XS.i2l X30.here hx rfl (hb hby at_172) rfl k))))))) ?_
       show oG (T30.setTop (mkF m 173 #[oI p0, oI p1, oI p2, oI p3, oI p4, oI p5, oI z1, oI z2, oI z3, oI z4, oI z5, oI z6, .val (.int (p3 &&& (3 : Int32))), oI z7, oI z8, oI z9, oI z10, oI z11, oI z15, oI z19, oI z23, oI z27, oR b28, oU, oU, oU, oU, oU, oU, oU, oU, oU, oU] [(.long (p0.toInt64)), (.int z3), (.int p4), (.int z8), (.ref b28)]))
       obtain ⟨cq34, kq34, q34a, q34b, q34c⟩ := isOf hZ rfl (own_exf H_am_31)
       obtain ⟨_, _, ⟨T34, L34, k34, n34⟩, -, X34, ⟨Lc34, hQ34, l34, y34, z34⟩, st34⟩ := X30.virtualBack hx (y := oM23) (z := oM23) hown (mvT hZ (oW hw 59 rfl)) (mvT hZ (oW hw 60 rfl)) (notFace_of_selects (args := #[]) (mvT hZ (oW hw 62 rfl))) (mvT hZ (oW hw 62 rfl)) (mvT hZ (oW hw 61 rfl)) (by decide) (backOf (W := 0) (rm6Hf l Z a0 hw [] b28 z8 p4 z3 (p0.toInt64) z1 [] [] T30.heap n0 Z30 H_am_31 (by rw [← hz8]; exact own_b01 _) (Nat.le_trans (own_J0 z1).1 (by decide))) hZ (oW hw 63 rfl) (oW hw 3 rfl) (by decide) (by decide)) q34a q34c (g := (mkF m 173 #[oI p0, oI p1, oI p2, oI p3, oI p4, oI p5, oI z1, oI z2, oI z3, oI z4, oI z5, oI z6, .val (.int (p3 &&& (3 : Int32))), oI z7, oI z8, oI z9, oI z10, oI z11, oI z15, oI z19, oI z23, oI z27, oR b28, oU, oU, oU, oU, oU, oU, oU, oU, oU, oU] [(.long (p0.toInt64)), (.int z3), (.int p4), (.int z8), (.ref b28)])) rfl (by rw [hml]; rfl) (Steps.refl _) (argsL := [(.int z8), (.int p4), (.int z3), (.long (p0.toInt64))]) (rest := []) (lenOf own_pd944 rfl) rfl (by show 2 * 0 + _ ≤ _; exact Nat.le_of_eq rfl) (hb hby at_173) (fun _ _ => ⟨rfl, rfl, (by decide : 9 + 4 ≤ _), (by decide : 86 + 53 ≤ _)⟩)
       dsimp only [Pt.U, Pt.locs, Pt.cells, Pt.slots] at X34 l34 y34 z34 st34 hQ34
       replace y34 : 13 = k34 := y34.symm
       replace z34 : 139 = n34 := z34.symm
       subst y34 z34
       obtain ⟨rfl, N34q, sz34, H_am_34⟩ := hQ34
       have N34 : Fr n0 L34 := by rw [l34]; exact Fr.app N30 N34q
       have Z34 : n0 ≤ T34.heap.size := Nat.le_trans Z30 sz34
       have Y34 : k29 ≤ T34.heap.size := Nat.le_trans Y30 sz34
       refine own_goW (fun tg k => st34.trans k) ?_
       show oG (T34.setTop (mkF m 176 #[oI p0, oI p1, oI p2, oI p3, oI p4, oI p5, oI z1, oI z2, oI z3, oI z4, oI z5, oI z6, .val (.int (p3 &&& (3 : Int32))), oI z7, oI z8, oI z9, oI z10, oI z11, oI z15, oI z19, oI z23, oI z27, oR b28, oU, oU, oU, oU, oU, oU, oU, oU, oU, oU] []))
       have kj := hk33 T34 _ T34.heap (own_mono X34 (by decide) (by decide)) N34 rfl Z34 Y34 (by simp only [if_neg hc32]; exact H_am_34)
       simpa only [if_neg hc32] using kj
    by_cases hc24 : (0 : Int32) < z7
    · refine own_goW (fun _ k => XS.ifNo X22.here hx rfl (hb hby at_134) rfl ((if0 _ _).trans (tlt hc24).2.2.2) (XS.iconst X22.here hx rfl (hb hby at_137) (XS.goto X22.here hx rfl (pc0 := 138) (pc' := 142) rfl (hb hby at_138) (by decide) (by decide) k))) ?_
      show oG (T22.setTop (mkF m 142 #[oI p0, oI p1, oI p2, oI p3, oI p4, oI p5, oI z1, oI z2, oI z3, oI z4, oI z5, oI z6, .val (.int (p3 &&& (3 : Int32))), oI z7, oI z8, oI z9, oI z10, oI z11, oI z15, oI z19, oI z23, oU, oU, oU, oU, oU, oU, oU, oU, oU, oU, oU, oU] [(.int 1)]))
      have kj := hk25 T22 _ (own_mono X22 (by decide) (by decide)) N22 e22
      simpa only [if_pos hc24] using kj
    · refine own_goW (fun _ k => XS.ifYes X22.here hx rfl (pc0 := 134) (pc' := 141) rfl (hb hby at_134) rfl ((if0 _ _).trans (flt hc24).2.2.2) (by decide) (by decide) (XS.iconst X22.here hx rfl (hb hby at_141) k)) ?_
      show oG (T22.setTop (mkF m 142 #[oI p0, oI p1, oI p2, oI p3, oI p4, oI p5, oI z1, oI z2, oI z3, oI z4, oI z5, oI z6, .val (.int (p3 &&& (3 : Int32))), oI z7, oI z8, oI z9, oI z10, oI z11, oI z15, oI z19, oI z23, oU, oU, oU, oU, oU, oU, oU, oU, oU, oU, oU, oU] [(.int 0)]))
      have kj := hk25 T22 _ (own_mono X22 (by decide) (by decide)) N22 e22
      simpa only [if_neg hc24] using kj
   by_cases hc20 : (2 : Int32) < (p3 &&& (3 : Int32))
   · refine own_goW (fun _ k => XS.icmpNo X18.here hx rfl (hb hby at_122) rfl (tlt hc20).2.2.2 (XS.iconst X18.here hx rfl (hb hby at_125) (XS.goto X18.here hx rfl (pc0 := 126) (pc' := 130) rfl (hb hby at_126) (by decide) (by decide) k))) ?_
     show oG (T18.setTop (mkF m 130 #[oI p0, oI p1, oI p2, oI p3, oI p4, oI p5, oI z1, oI z2, oI z3, oI z4, oI z5, oI z6, .val (.int (p3 &&& (3 : Int32))), oI z7, oI z8, oI z9, oI z10, oI z11, oI z15, oI z19, oU, oU, oU, oU, oU, oU, oU, oU, oU, oU, oU, oU, oU] [(.int 1)]))
     have kj := hk21 T18 _ (own_mono X18 (by decide) (by decide)) N18 e18
     simpa only [if_pos hc20] using kj
   · refine own_goW (fun _ k => XS.icmpYes X18.here hx rfl (pc0 := 122) (pc' := 129) rfl (hb hby at_122) rfl (flt hc20).2.2.2 (by decide) (by decide) (XS.iconst X18.here hx rfl (hb hby at_129) k)) ?_
     show oG (T18.setTop (mkF m 130 #[oI p0, oI p1, oI p2, oI p3, oI p4, oI p5, oI z1, oI z2, oI z3, oI z4, oI z5, oI z6, .val (.int (p3 &&& (3 : Int32))), oI z7, oI z8, oI z9, oI z10, oI z11, oI z15, oI z19, oU, oU, oU, oU, oU, oU, oU, oU, oU, oU, oU, oU, oU] [(.int 0)]))
     have kj := hk21 T18 _ (own_mono X18 (by decide) (by decide)) N18 e18
     simpa only [if_neg hc20] using kj
  by_cases hc16 : (1 : Int32) < (p3 &&& (3 : Int32))
  · refine own_goW (fun _ k => XS.icmpNo X14.here hx rfl (hb hby at_109) rfl (tlt hc16).2.2.2 (XS.iconst X14.here hx rfl (hb hby at_112) (XS.goto X14.here hx rfl (pc0 := 113) (pc' := 117) rfl (hb hby at_113) (by decide) (by decide) k))) ?_
    show oG (T14.setTop (mkF m 117 #[oI p0, oI p1, oI p2, oI p3, oI p4, oI p5, oI z1, oI z2, oI z3, oI z4, oI z5, oI z6, .val (.int (p3 &&& (3 : Int32))), oI z7, oI z8, oI z9, oI z10, oI z11, oI z15, oU, oU, oU, oU, oU, oU, oU, oU, oU, oU, oU, oU, oU, oU] [(.int 1)]))
    have kj := hk17 T14 _ (own_mono X14 (by decide) (by decide)) N14 e14
    simpa only [if_pos hc16] using kj
  · refine own_goW (fun _ k => XS.icmpYes X14.here hx rfl (pc0 := 109) (pc' := 116) rfl (hb hby at_109) rfl (flt hc16).2.2.2 (by decide) (by decide) (XS.iconst X14.here hx rfl (hb hby at_116) k)) ?_
    show oG (T14.setTop (mkF m 117 #[oI p0, oI p1, oI p2, oI p3, oI p4, oI p5, oI z1, oI z2, oI z3, oI z4, oI z5, oI z6, .val (.int (p3 &&& (3 : Int32))), oI z7, oI z8, oI z9, oI z10, oI z11, oI z15, oU, oU, oU, oU, oU, oU, oU, oU, oU, oU, oU, oU, oU, oU] [(.int 0)]))
    have kj := hk17 T14 _ (own_mono X14 (by decide) (by decide)) N14 e14
    simpa only [if_neg hc16] using kj
 by_cases hc12 : (0 : Int32) < (p3 &&& (3 : Int32))
 · refine own_goW (fun _ k => XS.ifNo X0.here hx rfl (hb hby at_96) rfl ((if0 _ _).trans (tlt hc12).2.2.2) (XS.iconst X0.here hx rfl (hb hby at_99) (XS.goto X0.here hx rfl (pc0 := 100) (pc' := 104) rfl (hb hby at_100) (by decide) (by decide) k))) ?_
   show oG (s₁.setTop (mkF m 104 #[oI p0, oI p1, oI p2, oI p3, oI p4, oI p5, oI z1, oI z2, oI z3, oI z4, oI z5, oI z6, .val (.int (p3 &&& (3 : Int32))), oI z7, oI z8, oI z9, oI z10, oI z11, oU, oU, oU, oU, oU, oU, oU, oU, oU, oU, oU, oU, oU, oU, oU] [(.int 1)]))
   have kj := hk13 s₁ _ (own_mono X0 (by decide) (by decide)) N0 e0
   simpa only [if_pos hc12] using kj
 · refine own_goW (fun _ k => XS.ifYes X0.here hx rfl (pc0 := 96) (pc' := 103) rfl (hb hby at_96) rfl ((if0 _ _).trans (flt hc12).2.2.2) (by decide) (by decide) (XS.iconst X0.here hx rfl (hb hby at_103) k)) ?_
   show oG (s₁.setTop (mkF m 104 #[oI p0, oI p1, oI p2, oI p3, oI p4, oI p5, oI z1, oI z2, oI z3, oI z4, oI z5, oI z6, .val (.int (p3 &&& (3 : Int32))), oI z7, oI z8, oI z9, oI z10, oI z11, oU, oU, oU, oU, oU, oU, oU, oU, oU, oU, oU, oU, oU, oU, oU] [(.int 0)]))
   have kj := hk13 s₁ _ (own_mono X0 (by decide) (by decide)) N0 e0
   simpa only [if_neg hc12] using kj
def own_cp (p : Int32 → Bool) (M : List Int32) : Nat := (M.filter p).length
theorem own_cpp (p : Int32 → Bool) (b : Int32) (L0 L1 : List Int32) (r : Int32) (hb : b = 0 ∨ b = 1) : own_cp p (own_psh b (0 : Int32) L0 r ++ own_psh b (1 : Int32) L1 r) = own_cp p (L0 ++ L1) + (if p r then 1 else 0) := by
  unfold own_cp own_psh
  rcases hb with rfl | rfl
  · rw [if_pos rfl, if_neg (by decide)]
    simp only [List.filter_append, List.length_append]
    cases hp : p r <;> simp [hp] <;> omega
  · rw [if_neg (by decide), if_pos rfl]
    simp only [List.filter_append, List.length_append]
    cases hp : p r <;> simp [hp] <;> omega
theorem own_cpi (p : Int32 → Bool) (z b : Int32) (L0 L1 : List Int32) (r : Int32) (hb : b = 0 ∨ b = 1) : own_cp p ((if z = (0 : Int32) then L0 else own_psh b (0 : Int32) L0 r) ++ (if z = (0 : Int32) then L1 else own_psh b (1 : Int32) L1 r)) = own_cp p (L0 ++ L1) + (if z = (0 : Int32) then 0 else if p r then 1 else 0) := by
  by_cases h : z = 0
  · rw [if_pos h, if_pos h, if_pos h]; rfl
  · rw [if_neg h, if_neg h, if_neg h]; exact own_cpp p b L0 L1 r hb
theorem own_cle (M : List Int32) (v : Int32) : own_cp (fun x => decide (x ≤ v)) M = own_cp (fun x => decide (x < v)) M + own_cp (fun x => decide (x = v)) M := by
  induction M with
  | nil => rfl
  | cons x xs ih =>
    unfold own_cp at *
    have hle : decide (x ≤ v) = (decide (x < v) || decide (x = v)) := by
      rw [Bool.eq_iff_iff]
      simp only [decide_eq_true_eq, Bool.or_eq_true, Int32.le_iff_toInt_le, Int32.lt_iff_toInt_lt, ← Int32.toInt_inj]
      omega
    have hne : ¬ (x < v ∧ x = v) := fun ⟨a, b⟩ => by subst b; exact Int32.lt_irrefl a
    by_cases h1 : x < v
    · have h2 : ¬ x = v := fun e => hne ⟨h1, e⟩
      simp only [List.filter_cons, hle, h1, h2, decide_true, decide_false, Bool.true_or, if_true, Bool.false_eq_true, if_false, List.length_cons]
      omega
    · by_cases h2 : x = v
      · simp only [List.filter_cons, hle, h1, h2, decide_true, decide_false, Bool.false_or, if_true, Bool.false_eq_true, if_false, List.length_cons] at *
        simp [h1] at *
        omega
      · simp only [List.filter_cons, hle, h1, h2, decide_true, decide_false, Bool.false_or, if_true, Bool.false_eq_true, if_false]
        exact ih
theorem own_cmem (M : List Int32) (v : Int32) : v ∈ M ↔ 0 < own_cp (fun x => decide (x = v)) M := by
  unfold own_cp
  rw [List.length_pos_iff_exists_mem]
  constructor
  · intro h; exact ⟨v, List.mem_filter.mpr ⟨h, by simp⟩⟩
  · rintro ⟨x, hx⟩
    obtain ⟨h1, h2⟩ := List.mem_filter.mp hx
    have : x = v := by simpa using h2
    exact this ▸ h1
theorem own_ofs : ∀ B : Fin 4, ∀ H : Fin 4, Int32.ofNat (B.1 + H.1) - Int32.ofNat B.1 = Int32.ofNat H.1 ∧ (Int32.ofNat H.1 = 0 ↔ H.1 = 0) := by decide +kernel
theorem own_fin (M : List Int32) (v k : Int32) (hl : M.length ≤ 3) (hk : 0 ≤ k.toInt) : own_f27 (own_fst M v) (own_lst M v) (Int32.ofNat (own_cp (fun x => decide (x = v)) M)) (Int32.ofNat (own_cp (fun x => decide (x < v)) M)) k = 1 := by
  have e : own_lst M v = if v ∈ M then Int32.ofNat (own_cp (fun x => decide (x < v)) M + own_cp (fun x => decide (x = v)) M) else 0 := by
    unfold own_lst; rw [← own_cle]; rfl
  have f : own_fst M v = if v ∈ M then Int32.ofNat (own_cp (fun x => decide (x < v)) M) else 0 := rfl
  have hB : own_cp (fun x => decide (x < v)) M < 4 := Nat.lt_of_le_of_lt (List.length_filter_le _ _) (by omega)
  have hH : own_cp (fun x => decide (x = v)) M < 4 := Nat.lt_of_le_of_lt (List.length_filter_le _ _) (by omega)
  have q := own_ofs ⟨_, hB⟩ ⟨_, hH⟩
  have m := own_cmem M v
  rw [e, f]
  generalize own_cp (fun x => decide (x < v)) M = B at *
  generalize own_cp (fun x => decide (x = v)) M = H at *
  unfold own_f27
  by_cases h : v ∈ M
  · have h0 := m.mp h
    have h1 : ¬ Int32.ofNat H = 0 := fun z => by have := q.2.mp z; simp at this; omega
    rw [if_pos h, if_pos h, if_pos q.1, if_neg h1, if_pos rfl]
  · have h0 : H = 0 := by
      rcases Nat.eq_zero_or_pos H with z | z
      · exact z
      · exact absurd (m.mpr z) h
    subst h0
    have k0 : ¬ k < (0 : Int32) := by rw [Int32.lt_iff_toInt_lt, show (0 : Int32).toInt = 0 from by decide]; omega
    rw [if_neg h, if_neg h, if_pos (by decide), if_pos (by decide), if_neg (by decide), if_neg k0]
theorem own_f25c (z r v : Int32) : own_f25 z r v = Int32.ofNat (if z = (0 : Int32) then 0 else if decide (r = v) = true then 1 else 0) := by
  unfold own_f25
  by_cases h : z = 0
  · rw [if_pos h, if_pos h]; rfl
  · rw [if_neg h, if_neg h]
    by_cases g : r = v
    · rw [if_pos g, if_pos (by simpa using g)]; rfl
    · rw [if_neg g, if_neg (by simpa using g)]; rfl
theorem own_f26c (z r v : Int32) : own_f26 z r v = Int32.ofNat (if z = (0 : Int32) then 0 else if decide (r < v) = true then 1 else 0) := by
  unfold own_f26
  by_cases h : z = 0
  · rw [if_pos h, if_pos h]; rfl
  · rw [if_neg h, if_neg h]
    by_cases g : r < v
    · rw [if_pos g, if_pos (by simpa using g)]; rfl
    · rw [if_neg g, if_neg (by simpa using g)]; rfl
theorem own_plain (p0 p1 p2 p3 p4 p5 : Int32) : own_f0 p0 p1 p2 p3 p4 p5 = 1 := by
  unfold own_f0
  extract_lets z1 z2 z3 z4 z5 z6 z7 z8 z9 z10 z11 z15 z19 z23 z27 f36 f37 f42 f43 f48 f49 z52 z54 z58 z62 z64 f69 f70 z73 z75 z79
  have hn : own_n14 z1 := own_n1 p5
  have hv : own_in z2 z1 := own_in2 p5 p5
  have h3 : own_in z3 z1 := own_in1 p0 p5
  have h4 : own_in z4 z1 := own_in1 p1 p5
  have h5 : own_in z5 z1 := own_in1 p2 p5
  have h6 : own_in z6 z1 := own_in16 p1 p5
  have b8 : z8 = 0 ∨ z8 = 1 := own_b01 _
  have b9 : z9 = 0 ∨ z9 = 1 := own_b01 _
  have b10 : z10 = 0 ∨ z10 = 1 := own_b01 _
  have b11 : z11 = 0 ∨ z11 = 1 := own_b01 _
  have J1 : own_J z1 1 f36 f37 := own_Ji (own_Jw (own_J0 _)) (own_Jp (own_J0 _) h3)
  have J2 : own_J z1 2 f42 f43 := own_Ji (own_Jw J1) (own_Jp J1 h4)
  have J3 : own_J z1 3 f48 f49 := own_Ji (own_Jw J2) (own_Jp J2 h5)
  have K1 : own_J z1 1 f69 f70 := own_Ji (own_Jw (own_J0 _)) (own_Jp (own_J0 _) h6)
  have cM : ∀ p : Int32 → Bool, own_cp p (f48 ++ f49) = (if z15 = (0 : Int32) then 0 else if p z3 then 1 else 0) + (if z19 = (0 : Int32) then 0 else if p z4 then 1 else 0) + (if z23 = (0 : Int32) then 0 else if p z5 then 1 else 0) := fun p => by
    have a1 := own_cpi p z15 z8 [] [] z3 b8
    have a2 := own_cpi p z19 z9 f36 f37 z4 b9
    have a3 := own_cpi p z23 z10 f42 f43 z5 b10
    have a0 : own_cp p ([] ++ []) = 0 := rfl
    rw [a0, Nat.zero_add] at a1
    rw [show own_cp p (f48 ++ f49) = _ from a3, show own_cp p (f42 ++ f43) = _ from a2, show own_cp p (f36 ++ f37) = _ from a1]
  have cN : ∀ p : Int32 → Bool, own_cp p (f69 ++ f70) = (if z27 = (0 : Int32) then 0 else if p z6 then 1 else 0) := fun p => by
    have a1 := own_cpi p z27 z11 [] [] z6 b11
    have a0 : own_cp p ([] ++ []) = 0 := rfl
    rw [a0, Nat.zero_add] at a1
    exact a1
  have v1 := own_val hn J3.1 J3.2 hv
  have v2 := own_val hn (Nat.le_trans K1.1 (by decide)) K1.2 hv
  have l1 : (f48 ++ f49).length ≤ 3 := by rw [List.length_append]; exact J3.1
  have l2 : (f69 ++ f70).length ≤ 3 := by rw [List.length_append]; exact Nat.le_trans K1.1 (by decide)
  have w1 : z64 = 1 := by
    have q := own_fin (f48 ++ f49) z2 (p3 &&& (3 : Int32)) l1 (own_an p3 2 3 (by decide) (by decide) (by decide)).1
    rw [cM, cM, ← v1.1, ← v1.2] at q
    simp only [Int32.ofNat_add, ← own_f25c, ← own_f26c] at q
    exact q
  have w2 : z79 = 1 := by
    have q := own_fin (f69 ++ f70) z2 z7 l2 (own_an _ 1 1 (by decide) (by decide) (by decide)).1
    rw [cN, cN, ← v2.1, ← v2.2] at q
    simp only [← own_f25c, ← own_f26c] at q
    exact q
  rw [if_neg (by rw [w1]; decide), if_neg (by rw [w2]; decide)]

set_option maxRecDepth 65536 in
set_option maxHeartbeats 40000000 in
theorem comes_1 {Post : Tables → Env → Array Value → State → Outcome → State → Prop} (hpost : ∀ tb e args s v u, (limb_1_1.after args s (.returned v) u = true ∧ limb_1_2.after args s (.returned v) u = true ∧ True) → ReturnedEndW s (.returned v) u (Jvm.fieldLocs frame_1_writes args s ++ Jvm.arrayLocs frame_1_arrays args s ++ Jvm.staticLocs frame_1_statics s) 56 1472 → Post tb e args s (.returned v) u) :
    ArmFor flags0 classFile x code maxLocals ret World_1 tables_1 room_1 Calls_1 rest_1 Pre_1 Post := by
  intro l hfl _ _ p e ha hc hk s m args below hf hA hF happ hP
  obtain ⟨hcalls, hrest, hpre⟩ := hP
  obtain ⟨-, -, -, hnamed, -, -, -, hat⟩ := (Spec.applies_iff hf).mp happ
  obtain ⟨hg, hn⟩ := and_e (Cond.before_iff.mp (show (Jvm.Cond.and given_1 narrow_1).before args s = true from hpre))
  obtain ⟨g1, g2⟩ := and_e hg
  obtain ⟨g3, g4⟩ := and_e g2
  obtain ⟨g5, g6⟩ := and_e g4
  obtain ⟨g7, g8⟩ := and_e g6
  obtain ⟨g9, g10⟩ := and_e g8
  obtain ⟨g11, g12⟩ := and_e g10
  obtain ⟨w0, w1, w2, w3, w4, w5, rfl⟩ : ∃ w0 w1 w2 w3 w4 w5 : Value, args = #[w0, w1, w2, w3, w4, w5] := by
    have hs : args.size = 6 := by simpa [Cond.value, given_1] using g1
    obtain ⟨L⟩ := args
    match L, hs with
    | [w0, w1, w2, w3, w4, w5], _ => exact ⟨w0, w1, w2, w3, w4, w5, rfl⟩
  have hw := fun d (hd : d ∈ tables_1) => atoms_spec (ws := Jvm.Cond.code x code maxLocals ret :: tables_1) hat d (List.mem_cons_of_mem _ hd)
  have hfit : Fit s := fun {y c} hc i hi => by
    obtain ⟨ha, rfl⟩ := Array.getElem?_eq_some_iff.mp hc
    have q := List.all_eq_true.mp ((Array.all_eq_true_iff_forall_mem.mp hF) _ (Array.getElem_mem ha)) i (List.mem_range.mpr hi)
    simpa [Array.getElem?_eq_getElem hi] using q
  obtain ⟨i0, ei0⟩ := is_v g3
  obtain rfl : w0 = (.int i0) := Option.some.inj ei0
  obtain ⟨i1, ei1⟩ := is_v g5
  obtain rfl : w1 = (.int i1) := Option.some.inj ei1
  obtain ⟨i2, ei2⟩ := is_v g7
  obtain rfl : w2 = (.int i2) := Option.some.inj ei2
  obtain ⟨i3, ei3⟩ := is_v g9
  obtain rfl : w3 = (.int i3) := Option.some.inj ei3
  obtain ⟨i4, ei4⟩ := is_v g11
  obtain rfl : w4 = (.int i4) := Option.some.inj ei4
  obtain ⟨i5, ei5⟩ := is_v g12
  obtain rfl : w5 = (.int i5) := Option.some.inj ei5
  obtain ⟨n, o, h1, h2, h3, _, L, rfl, ⟨rfl, N, hrest'⟩, -, hq⟩ := rm0 l s _ hw tables_1 i0 i1 i2 i3 i4 i5 s.heap s.heap.size (Nat.le_refl _) p e ha hc hk s m _ below hf ((Spec.applies_iff_loose hf).mp happ).1 ⟨rfl, State.Warmed39.refl s, rfl⟩ trivial
  refine ⟨n, _, h1, h2, h3, hpost _ _ _ _ _ _ ⟨Cond.after_iff.mpr rfl, Cond.after_iff.mpr (eq_i res_at (Term.int_eval (1)) (congrArg Value.int (own_plain i0 i1 i2 i3 i4 i5))), trivial⟩ ⟨hq.1, hq.2.1, hq.2.2.1, (hq.2.2.2.sift fun y hy => Or.inr (N y hy)).mono (by decide) (by decide)⟩⟩
theorem main_1_1 : Claimed_1_1 := comes_1 fun _ _ _ _ _ _ h hF => ⟨h.1, hF⟩
theorem main_1_2 : Claimed_1_2 := comes_1 fun _ _ _ _ _ _ h hF => ⟨h.2.1, hF⟩
end Jvm.Pilot.@@N@@
namespace Jvm.Pilot.@@N@@
open Jvm Jvm.ClassFile Sem Op Lib Jvm.Free Jvm.Stand Jvm.Pilot.@@N@@.Jvm.D
/-! MADE BY PROGRAM (witnessworld.py) out of the Statement's table words and the real class files: 28 classes; the members and pool entries that the words name. The judged class is class 1, her method 4. -/
namespace start1
open Jvm.ClassFile
def u (s : String) : CpInfo := .utf8 (stringToUtf16 s)
/-- a pool by its gaps: so many unusable entries, then the entry; so many at the end -/
def gap : Nat → List CpInfo → List CpInfo
  | 0, r => r
  | n + 1, r => .unusable :: gap n r
def poolList (es : List (Nat × CpInfo)) (last : Nat) : List CpInfo := es.foldr (fun e r => gap e.1 (e.2 :: r)) (gap last [])
def pool (es : List (Nat × CpInfo)) (last : Nat) : Array CpInfo := ⟨poolList es last⟩
def fileOf (pool : Array CpInfo) (this : Nat) (attrs : Array Attribute := #[]) (ms : Array MethodInfo := #[]) (fl : Nat := 33) (sup : Nat := 0) (ifs : Array Nat := #[]) (fds : Array FieldInfo := #[]) : ClassFile where
  minorVersion := 0
  majorVersion := 65
  constantPool := pool
  accessFlags := fl
  thisClass := this
  superClass := sup
  interfaces := ifs
  fields := fds
  methods := ms
  attributes := attrs
def plain (name : String) (sup : Option ClassId) : Class where
  name := name
  kind := .ordinary
  loader := none
  accessFlags := 33
  super := sup
  interfaces := #[]
  cf := none
  fields := #[]
  methods := #[]
  instanceTypes := #[]
  staticTypes := #[]
  resolved := #[]
  callSites := []
  init := .initialized
  statics := none
  mirror := none

def pool0 : Array CpInfo := pool [(5, u "<init>"), (0, u "()V"), (1, .class_ 10), (1, u "java/lang/Object")] 113

def k0c0 : Code := { maxStack := 0, maxLocals := 1, code := object_method_1_code, exceptionTable := #[], attributes := #[] }
def k0m0 : Method := { name := "<init>", desc := "()V", sig := { parameters := [], returnType := none }, accessFlags := 1, code := some k0c0 }
/-- java/lang/Object -/
def k0 : Class := { plain "java/lang/Object" none with
  accessFlags := 33
  interfaces := #[]
  cf := some (fileOf pool0 8 #[] #[{ accessFlags := 1, nameIndex := 5, descriptorIndex := 6, attributes := #[] }] 33 0 #[] #[])
  fields := #[]
  methods := #[k0m0]
  instanceTypes := #[]
  staticTypes := #[]
  resolved := Array.replicate 124 none
  statics := none }

def pool1 : Array CpInfo := pool [(2, .class_ 4), (1, u "java/lang/Object"), (0, u "<init>"), (0, u "()V"), (0, .integer 2147483647), (0, .class_ 9), (0, u "com/example/lockstep/lockstep/engine/AddressedMessages"), (0, .string 11), (0, u "vertices"), (0, .methodref 8 13), (0, .nameAndType 5 14), (0, u "(IILjava/lang/String;)V"), (0, .methodref 8 16), (0, .nameAndType 17 18), (0, u "send"), (0, u "(IIIJ)V"), (0, .methodref 8 20), (0, .nameAndType 21 22), (0, u "deliver"), (0, u "(I)Z"), (0, .methodref 8 24), (0, .nameAndType 25 26), (0, u "first"), (0, u "(I)I"), (0, .methodref 8 28), (0, .nameAndType 29 26), (0, u "end"), (0, .methodref 31 32), (0, .class_ 33), (0, .nameAndType 34 35), (0, u "com/example/lockstep/lockstep/engine/AddressedMessagesFirstPinLaw"), (0, u "hit"), (0, u "(ZII)I"), (0, .methodref 31 37), (0, .nameAndType 38 35), (0, u "below"), (0, .methodref 31 40), (0, .nameAndType 41 42), (0, u "check"), (0, u "(IIIII)Z"), (3, u "law"), (0, u "(IIIIII)Z")] 2

def k1m0 : Method := { name := "<init>", desc := "()V", sig := { parameters := [], returnType := none }, accessFlags := 2, code := none }
def k1c1 : Code := { maxStack := 2, maxLocals := 3, code := method_2_code, exceptionTable := #[], attributes := #[] }
def k1m1 : Method := { name := "hit", desc := "(ZII)I", sig := { parameters := [.boolean, .int, .int], returnType := some .int }, accessFlags := 10, code := some k1c1 }
def k1c2 : Code := { maxStack := 2, maxLocals := 3, code := method_3_code, exceptionTable := #[], attributes := #[] }
def k1m2 : Method := { name := "below", desc := "(ZII)I", sig := { parameters := [.boolean, .int, .int], returnType := some .int }, accessFlags := 10, code := some k1c2 }
def k1c3 : Code := { maxStack := 2, maxLocals := 5, code := method_4_code, exceptionTable := #[], attributes := #[] }
def k1m3 : Method := { name := "check", desc := "(IIIII)Z", sig := { parameters := [.int, .int, .int, .int, .int], returnType := some .boolean }, accessFlags := 10, code := some k1c3 }
def k1c4 : Code := { maxStack := 6, maxLocals := 33, code := code, exceptionTable := #[], attributes := #[] }
def k1m4 : Method := { name := "law", desc := "(IIIIII)Z", sig := { parameters := [.int, .int, .int, .int, .int, .int], returnType := some .boolean }, accessFlags := 9, code := some k1c4 }
/-- com/example/lockstep/lockstep/engine/AddressedMessagesFirstPinLaw -/
def k1 : Class := { plain "com/example/lockstep/lockstep/engine/AddressedMessagesFirstPinLaw" (some 0) with
  accessFlags := 49
  interfaces := #[]
  cf := some (fileOf pool1 31 #[] #[{ accessFlags := 2, nameIndex := 5, descriptorIndex := 6, attributes := #[] }, { accessFlags := 10, nameIndex := 34, descriptorIndex := 35, attributes := #[] }, { accessFlags := 10, nameIndex := 38, descriptorIndex := 35, attributes := #[] }, { accessFlags := 10, nameIndex := 41, descriptorIndex := 42, attributes := #[] }, { accessFlags := 9, nameIndex := 46, descriptorIndex := 47, attributes := #[] }] 49 2 #[] #[])
  fields := #[]
  methods := #[k1m0, k1m1, k1m2, k1m3, k1m4]
  instanceTypes := #[]
  staticTypes := #[]
  resolved := Array.replicate 50 none
  statics := none }

def pool2 : Array CpInfo := pool [(3, .methodref 4 5), (0, .class_ 6), (0, .nameAndType 7 8), (0, u "java/lang/Object"), (0, u "<init>"), (0, u "()V"), (0, .fieldref 10 11), (0, .class_ 12), (0, .nameAndType 13 14), (0, u "com/example/lockstep/lockstep/engine/AddressedMessages"), (0, u "receivers"), (0, u "I"), (0, .fieldref 10 16), (0, .nameAndType 17 18), (0, u "senderKind"), (0, u "Ljava/lang/String;"), (0, .class_ 20), (0, u "com/example/lockstep/lockstep/engine/AddressedMessages$Outbox"), (0, .fieldref 10 22), (0, .nameAndType 23 24), (0, u "outboxes"), (0, u "[Lcom/example/lockstep/lockstep/engine/AddressedMessages$Outbox;"), (0, .class_ 26), (0, u "com/example/lockstep/lockstep/engine/VertexSet"), (0, .methodref 28 29), (0, .class_ 30), (0, .nameAndType 31 32), (0, u "com/example/lockstep/lockstep/engine/Engine"), (0, u "blockCount"), (0, u "(I)I"), (0, .methodref 25 34), (0, .nameAndType 7 35), (0, u "(I)V"), (0, .fieldref 10 37), (0, .nameAndType 38 39), (0, u "recipients"), (0, u "Lcom/example/lockstep/lockstep/engine/VertexSet;"), (0, .methodref 19 41), (0, .nameAndType 7 42), (0, u "(Lcom/example/lockstep/lockstep/engine/AddressedMessages;)V"), (0, .methodref 19 44), (0, .nameAndType 45 46), (0, u "add"), (0, u "(IIJ)V"), (0, .fieldref 10 48), (0, .nameAndType 49 50), (0, u "first"), (0, u "[I"), (0, .fieldref 10 52), (0, .nameAndType 53 50), (0, u "end"), (0, .fieldref 10 55), (0, .nameAndType 56 14), (0, u "delivered"), (0, .fieldref 10 58), (0, .nameAndType 59 50), (0, u "senders"), (0, .fieldref 10 61), (0, .nameAndType 62 63), (0, u "messages"), (0, u "[J"), (0, .methodref 25 65), (0, .nameAndType 31 66), (0, u "()I"), (0, .methodref 25 68), (0, .nameAndType 69 32), (0, u "block"), (0, .methodref 28 71), (0, .nameAndType 72 73), (0, u "blockEnd"), (0, u "(II)I"), (0, .methodref 75 76), (0, .class_ 77), (0, .nameAndType 78 79), (0, u "java/util/Arrays"), (0, u "fill"), (0, u "([IIII)V"), (0, .methodref 25 81), (0, .nameAndType 82 8), (0, u "clear"), (0, .fieldref 19 84), (0, .nameAndType 85 14), (0, u "size"), (0, .long 2147483639), (10, .fieldref 19 98), (0, .nameAndType 13 50), (0, .methodref 25 100), (0, .nameAndType 45 35), (0, .methodref 25 102), (0, .nameAndType 103 8), (0, u "sort"), (0, .methodref 25 105), (0, .nameAndType 106 73), (0, u "next"), (0, .fieldref 19 58), (0, .fieldref 19 61), (0, u "MAX_MESSAGES"), (2, u "(IILjava/lang/String;)V"), (2, u "send"), (0, u "(IIIJ)V"), (5, u "deliver"), (0, u "(I)Z")] 20

def k2c0 : Code := { maxStack := 4, maxLocals := 4, code := prog_18_method_1_code, exceptionTable := #[], attributes := #[] }
def k2m0 : Method := { name := "<init>", desc := "(IILjava/lang/String;)V", sig := { parameters := [.int, .int, (.object "java/lang/String")], returnType := none }, accessFlags := 0, code := some k2c0 }
def k2c1 : Code := { maxStack := 5, maxLocals := 7, code := prog_18_method_2_code, exceptionTable := #[], attributes := #[] }
def k2m1 : Method := { name := "send", desc := "(IIIJ)V", sig := { parameters := [.int, .int, .int, .long], returnType := none }, accessFlags := 0, code := some k2c1 }
def k2c2 : Code := { maxStack := 2, maxLocals := 2, code := prog_18_method_3_code, exceptionTable := #[], attributes := #[] }
def k2m2 : Method := { name := "first", desc := "(I)I", sig := { parameters := [.int], returnType := some .int }, accessFlags := 0, code := some k2c2 }
def k2c3 : Code := { maxStack := 2, maxLocals := 2, code := prog_18_method_4_code, exceptionTable := #[], attributes := #[] }
def k2m3 : Method := { name := "end", desc := "(I)I", sig := { parameters := [.int], returnType := some .int }, accessFlags := 0, code := some k2c3 }
def k2c4 : Code := { maxStack := 6, maxLocals := 11, code := prog_18_method_9_code, exceptionTable := #[], attributes := #[] }
def k2m4 : Method := { name := "deliver", desc := "(I)Z", sig := { parameters := [.int], returnType := some .boolean }, accessFlags := 0, code := some k2c4 }
/-- com/example/lockstep/lockstep/engine/AddressedMessages -/
def k2 : Class := { plain "com/example/lockstep/lockstep/engine/AddressedMessages" (some 0) with
  accessFlags := 48
  interfaces := #[]
  cf := some (fileOf pool2 10 #[.nestMembers #[19]] #[{ accessFlags := 0, nameIndex := 7, descriptorIndex := 112, attributes := #[] }, { accessFlags := 0, nameIndex := 115, descriptorIndex := 116, attributes := #[] }, { accessFlags := 0, nameIndex := 49, descriptorIndex := 32, attributes := #[] }, { accessFlags := 0, nameIndex := 53, descriptorIndex := 32, attributes := #[] }, { accessFlags := 0, nameIndex := 122, descriptorIndex := 123, attributes := #[] }] 48 4 #[] #[{ accessFlags := 26, nameIndex := 109, descriptorIndex := 14, attributes := #[] }, { accessFlags := 18, nameIndex := 13, descriptorIndex := 14, attributes := #[] }, { accessFlags := 18, nameIndex := 17, descriptorIndex := 18, attributes := #[] }, { accessFlags := 18, nameIndex := 23, descriptorIndex := 24, attributes := #[] }, { accessFlags := 2, nameIndex := 49, descriptorIndex := 50, attributes := #[] }, { accessFlags := 2, nameIndex := 53, descriptorIndex := 50, attributes := #[] }, { accessFlags := 2, nameIndex := 59, descriptorIndex := 50, attributes := #[] }, { accessFlags := 2, nameIndex := 62, descriptorIndex := 63, attributes := #[] }, { accessFlags := 18, nameIndex := 38, descriptorIndex := 39, attributes := #[] }, { accessFlags := 2, nameIndex := 56, descriptorIndex := 14, attributes := #[] }])
  fields := #[{ name := "MAX_MESSAGES", type := .int, accessFlags := 26, slot := 0, constantValue := 0 }, { name := "receivers", type := .int, accessFlags := 18, slot := 0, constantValue := 0 }, { name := "senderKind", type := (.object "java/lang/String"), accessFlags := 18, slot := 1, constantValue := 0 }, { name := "outboxes", type := (.array (.object "com/example/lockstep/lockstep/engine/AddressedMessages$Outbox")), accessFlags := 18, slot := 2, constantValue := 0 }, { name := "first", type := (.array .int), accessFlags := 2, slot := 3, constantValue := 0 }, { name := "end", type := (.array .int), accessFlags := 2, slot := 4, constantValue := 0 }, { name := "senders", type := (.array .int), accessFlags := 2, slot := 5, constantValue := 0 }, { name := "messages", type := (.array .long), accessFlags := 2, slot := 6, constantValue := 0 }, { name := "recipients", type := (.object "com/example/lockstep/lockstep/engine/VertexSet"), accessFlags := 18, slot := 7, constantValue := 0 }, { name := "delivered", type := .int, accessFlags := 2, slot := 8, constantValue := 0 }]
  methods := #[k2m0, k2m1, k2m2, k2m3, k2m4]
  instanceTypes := #[.int, (.object "java/lang/String"), (.array (.object "com/example/lockstep/lockstep/engine/AddressedMessages$Outbox")), (.array .int), (.array .int), (.array .int), (.array .long), (.object "com/example/lockstep/lockstep/engine/VertexSet"), .int]
  staticTypes := #[.int]
  resolved := ((((((Array.replicate 144 none).set! 19 (some (.cls 9))).set! 40 (some (.method ⟨9, 0⟩))).set! 83 (some (.field 9 3))).set! 97 (some (.field 9 1))).set! 107 (some (.field 9 0))).set! 108 (some (.field 9 2))
  statics := none }

def pool3 : Array CpInfo := pool [(1, .class_ 2), (0, u "java/io/Serializable"), (0, .class_ 4), (0, u "java/lang/Object")] 2

/-- java/io/Serializable -/
def k3 : Class := { plain "java/io/Serializable" (some 0) with
  accessFlags := 1537
  interfaces := #[]
  cf := some (fileOf pool3 1 #[] #[] 1537 3 #[] #[])
  fields := #[]
  methods := #[]
  instanceTypes := #[]
  staticTypes := #[]
  resolved := Array.replicate 7 none
  statics := none }

def pool4 : Array CpInfo := pool [(1, .class_ 2), (0, u "java/lang/Comparable"), (0, .class_ 4), (0, u "java/lang/Object")] 7

/-- java/lang/Comparable -/
def k4 : Class := { plain "java/lang/Comparable" (some 0) with
  accessFlags := 1537
  interfaces := #[]
  cf := some (fileOf pool4 1 #[] #[] 1537 3 #[] #[])
  fields := #[]
  methods := #[]
  instanceTypes := #[]
  staticTypes := #[]
  resolved := Array.replicate 12 none
  statics := none }

def pool5 : Array CpInfo := pool [(2, .class_ 4), (1, u "java/lang/CharSequence"), (42, .class_ 48), (0, u "java/lang/CharSequence$1CodePointIterator"), (10, .class_ 60), (0, u "java/lang/CharSequence$1CharIterator"), (5, .class_ 67), (0, u "java/lang/Object")] 63

/-- java/lang/CharSequence -/
def k5 : Class := { plain "java/lang/CharSequence" (some 0) with
  accessFlags := 1537
  interfaces := #[]
  cf := some (fileOf pool5 2 #[.nestMembers #[47, 59]] #[] 1537 66 #[] #[])
  fields := #[]
  methods := #[]
  instanceTypes := #[]
  staticTypes := #[]
  resolved := Array.replicate 131 none
  statics := none }

def pool6 : Array CpInfo := pool [(1, .class_ 2), (0, u "java/lang/constant/Constable"), (0, .class_ 4), (0, u "java/lang/Object")] 6

/-- java/lang/constant/Constable -/
def k6 : Class := { plain "java/lang/constant/Constable" (some 0) with
  accessFlags := 1537
  interfaces := #[]
  cf := some (fileOf pool6 1 #[] #[] 1537 3 #[] #[])
  fields := #[]
  methods := #[]
  instanceTypes := #[]
  staticTypes := #[]
  resolved := Array.replicate 11 none
  statics := none }

def pool7 : Array CpInfo := pool [(1, .class_ 2), (0, u "java/lang/constant/ConstantDesc"), (0, .class_ 4), (0, u "java/lang/Object")] 32

/-- java/lang/constant/ConstantDesc -/
def k7 : Class := { plain "java/lang/constant/ConstantDesc" (some 0) with
  accessFlags := 1537
  interfaces := #[]
  cf := some (fileOf pool7 1 #[] #[] 1537 3 #[] #[])
  fields := #[]
  methods := #[]
  instanceTypes := #[]
  staticTypes := #[]
  resolved := Array.replicate 37 none
  statics := none }

def pool8 : Array CpInfo := pool [(2, .class_ 4), (1, u "java/lang/Object"), (0, u "<init>"), (0, u "()V"), (3, .class_ 12), (1, u "java/lang/String"), (0, u "value"), (0, u "[B"), (2, u "coder"), (0, u "B"), (2, u "hash"), (0, u "I"), (2, u "hashIsZero"), (0, u "Z"), (13, u "COMPACT_STRINGS"), (534, .class_ 576), (0, u "java/lang/CharSequence"), (22, u "CASE_INSENSITIVE_ORDER"), (0, u "Ljava/util/Comparator;"), (500, u "serialPersistentFields"), (0, u "[Ljava/io/ObjectStreamField;"), (0, .class_ 1104), (0, u "java/lang/String$CaseInsensitiveComparator"), (1, .class_ 1107), (0, u "java/io/Serializable"), (0, .class_ 1109), (0, u "java/lang/Comparable"), (0, .class_ 1111), (0, u "java/lang/constant/Constable"), (0, .class_ 1113), (0, u "java/lang/constant/ConstantDesc"), (2, u "serialVersionUID"), (0, u "J"), (3, u "REPL"), (0, u "C"), (2, u "LATIN1"), (1, u "UTF16")] 323

def k8m0 : Method := { name := "<init>", desc := "()V", sig := { parameters := [], returnType := none }, accessFlags := 1, code := none }
/-- java/lang/String -/
def k8 : Class := { plain "java/lang/String" (some 0) with
  accessFlags := 49
  interfaces := #[3, 4, 5, 6, 7]
  cf := some (fileOf pool8 10 #[.nestMembers #[1103]] #[{ accessFlags := 1, nameIndex := 5, descriptorIndex := 6, attributes := #[] }] 49 2 #[1106, 1108, 575, 1110, 1112] #[{ accessFlags := 18, nameIndex := 13, descriptorIndex := 14, attributes := #[] }, { accessFlags := 18, nameIndex := 17, descriptorIndex := 18, attributes := #[] }, { accessFlags := 2, nameIndex := 21, descriptorIndex := 22, attributes := #[] }, { accessFlags := 2, nameIndex := 25, descriptorIndex := 26, attributes := #[] }, { accessFlags := 26, nameIndex := 1116, descriptorIndex := 1117, attributes := #[] }, { accessFlags := 24, nameIndex := 40, descriptorIndex := 26, attributes := #[] }, { accessFlags := 26, nameIndex := 1101, descriptorIndex := 1102, attributes := #[] }, { accessFlags := 26, nameIndex := 1121, descriptorIndex := 1122, attributes := #[] }, { accessFlags := 25, nameIndex := 599, descriptorIndex := 600, attributes := #[] }, { accessFlags := 24, nameIndex := 1125, descriptorIndex := 18, attributes := #[] }, { accessFlags := 24, nameIndex := 1127, descriptorIndex := 18, attributes := #[] }])
  fields := #[{ name := "value", type := (.array .byte), accessFlags := 18, slot := 0, constantValue := 0 }, { name := "coder", type := .byte, accessFlags := 18, slot := 1, constantValue := 0 }, { name := "hash", type := .int, accessFlags := 2, slot := 2, constantValue := 0 }, { name := "hashIsZero", type := .boolean, accessFlags := 2, slot := 3, constantValue := 0 }, { name := "serialVersionUID", type := .long, accessFlags := 26, slot := 0, constantValue := 0 }, { name := "COMPACT_STRINGS", type := .boolean, accessFlags := 24, slot := 1, constantValue := 0 }, { name := "serialPersistentFields", type := (.array (.object "java/io/ObjectStreamField")), accessFlags := 26, slot := 2, constantValue := 0 }, { name := "REPL", type := .char, accessFlags := 26, slot := 3, constantValue := 0 }, { name := "CASE_INSENSITIVE_ORDER", type := (.object "java/util/Comparator"), accessFlags := 25, slot := 4, constantValue := 0 }, { name := "LATIN1", type := .byte, accessFlags := 24, slot := 5, constantValue := 0 }, { name := "UTF16", type := .byte, accessFlags := 24, slot := 6, constantValue := 0 }]
  methods := #[k8m0]
  instanceTypes := #[(.array .byte), .byte, .int, .boolean]
  staticTypes := #[.long, .boolean, (.array (.object "java/io/ObjectStreamField")), .char, (.object "java/util/Comparator"), .byte, .byte]
  resolved := Array.replicate 1451 none
  statics := none }

def pool9 : Array CpInfo := pool [(1, .class_ 2), (0, u "com/example/lockstep/lockstep/engine/AddressedMessages"), (0, .fieldref 4 5), (0, .class_ 6), (0, .nameAndType 7 8), (0, u "com/example/lockstep/lockstep/engine/AddressedMessages$Outbox"), (0, u "this$0"), (0, u "Lcom/example/lockstep/lockstep/engine/AddressedMessages;"), (0, .methodref 10 11), (0, .class_ 12), (0, .nameAndType 13 14), (0, u "java/lang/Object"), (0, u "<init>"), (0, u "()V"), (0, .fieldref 4 16), (0, .nameAndType 17 18), (0, u "senders"), (0, u "[I"), (0, .fieldref 4 20), (0, .nameAndType 21 18), (0, u "receivers"), (0, .fieldref 4 23), (0, .nameAndType 24 25), (0, u "messages"), (0, u "[J"), (0, .fieldref 4 27), (0, .nameAndType 28 29), (0, u "size"), (0, u "I"), (0, .integer 2147483639), (13, .long 2), (1, .long 2147483639), (1, .methodref 49 50), (0, .class_ 51), (0, .nameAndType 52 53), (0, u "java/lang/Math"), (0, u "min"), (0, u "(JJ)J"), (9, u "(Lcom/example/lockstep/lockstep/engine/AddressedMessages;)V"), (3, u "add"), (0, u "(IIJ)V")] 20

def k9c0 : Code := { maxStack := 2, maxLocals := 2, code := prog_19_method_1_code, exceptionTable := #[], attributes := #[] }
def k9m0 : Method := { name := "<init>", desc := "(Lcom/example/lockstep/lockstep/engine/AddressedMessages;)V", sig := { parameters := [(.object "com/example/lockstep/lockstep/engine/AddressedMessages")], returnType := none }, accessFlags := 2, code := some k9c0 }
def k9c1 : Code := { maxStack := 4, maxLocals := 6, code := prog_19_method_2_code, exceptionTable := #[], attributes := #[] }
def k9m1 : Method := { name := "add", desc := "(IIJ)V", sig := { parameters := [.int, .int, .long], returnType := none }, accessFlags := 0, code := some k9c1 }
/-- com/example/lockstep/lockstep/engine/AddressedMessages$Outbox -/
def k9 : Class := { plain "com/example/lockstep/lockstep/engine/AddressedMessages$Outbox" (some 0) with
  accessFlags := 48
  interfaces := #[]
  cf := some (fileOf pool9 4 #[.nestHost 1] #[{ accessFlags := 2, nameIndex := 13, descriptorIndex := 63, attributes := #[] }, { accessFlags := 0, nameIndex := 67, descriptorIndex := 68, attributes := #[] }] 48 10 #[] #[{ accessFlags := 2, nameIndex := 17, descriptorIndex := 18, attributes := #[] }, { accessFlags := 2, nameIndex := 21, descriptorIndex := 18, attributes := #[] }, { accessFlags := 2, nameIndex := 24, descriptorIndex := 25, attributes := #[] }, { accessFlags := 2, nameIndex := 28, descriptorIndex := 29, attributes := #[] }, { accessFlags := 4112, nameIndex := 7, descriptorIndex := 8, attributes := #[] }])
  fields := #[{ name := "senders", type := (.array .int), accessFlags := 2, slot := 0, constantValue := 0 }, { name := "receivers", type := (.array .int), accessFlags := 2, slot := 1, constantValue := 0 }, { name := "messages", type := (.array .long), accessFlags := 2, slot := 2, constantValue := 0 }, { name := "size", type := .int, accessFlags := 2, slot := 3, constantValue := 0 }, { name := "this$0", type := (.object "com/example/lockstep/lockstep/engine/AddressedMessages"), accessFlags := 4112, slot := 4, constantValue := 0 }]
  methods := #[k9m0, k9m1]
  instanceTypes := #[(.array .int), (.array .int), (.array .long), .int, (.object "com/example/lockstep/lockstep/engine/AddressedMessages")]
  staticTypes := #[]
  resolved := Array.replicate 89 none
  statics := none }

def pool10 : Array CpInfo := pool [(3, .class_ 4), (0, u "java/lang/Long"), (0, .methodref 6 7), (0, .class_ 8), (0, .nameAndType 9 10), (0, u "java/lang/Object"), (0, u "<init>"), (0, u "()V"), (0, .class_ 12), (0, u "com/example/lockstep/lockstep/engine/IndexList"), (0, .methodref 11 7), (0, .fieldref 15 16), (0, .class_ 17), (0, .nameAndType 18 19), (0, u "com/example/lockstep/lockstep/engine/VertexSet"), (0, u "blocks"), (0, u "Lcom/example/lockstep/lockstep/engine/IndexList;"), (0, .fieldref 15 21), (0, .nameAndType 22 23), (0, u "sorted"), (0, u "Z"), (0, .fieldref 15 25), (0, .nameAndType 26 27), (0, u "words"), (0, u "[J"), (0, .fieldref 15 29), (0, .nameAndType 30 31), (0, u "held"), (0, u "[Z"), (0, .methodref 15 33), (0, .nameAndType 34 35), (0, u "hold"), (0, u "(I)V"), (0, .methodref 11 37), (0, .nameAndType 38 39), (0, u "size"), (0, u "()I"), (0, .methodref 11 41), (0, .nameAndType 42 43), (0, u "get"), (0, u "(I)I"), (0, .methodref 11 45), (0, .nameAndType 46 35), (0, u "add"), (2, u "sort"), (7, .long 18446744073709551615), (1, .methodref 3 60), (0, .nameAndType 61 62), (0, u "numberOfTrailingZeros"), (0, u "(J)I"), (0, .methodref 64 65), (0, .class_ 66), (0, .nameAndType 67 68), (0, u "java/util/Arrays"), (0, u "fill"), (0, u "([JIIJ)V"), (0, .methodref 11 70), (0, .nameAndType 71 10), (0, u "clear"), (0, u "WORDS_PER_BLOCK"), (0, u "I"), (7, u "blockCount"), (0, u "block"), (0, u "next"), (0, u "(II)I")] 2

def k10c0 : Code := { maxStack := 3, maxLocals := 2, code := prog_49_method_1_code, exceptionTable := #[], attributes := #[] }
def k10m0 : Method := { name := "<init>", desc := "(I)V", sig := { parameters := [.int], returnType := none }, accessFlags := 0, code := some k10c0 }
def k10c1 : Code := { maxStack := 7, maxLocals := 2, code := prog_49_method_2_code, exceptionTable := #[], attributes := #[] }
def k10m1 : Method := { name := "add", desc := "(I)V", sig := { parameters := [.int], returnType := none }, accessFlags := 0, code := some k10c1 }
def k10c2 : Code := { maxStack := 5, maxLocals := 2, code := prog_49_method_4_code, exceptionTable := #[], attributes := #[] }
def k10m2 : Method := { name := "hold", desc := "(I)V", sig := { parameters := [.int], returnType := none }, accessFlags := 2, code := some k10c2 }
def k10c3 : Code := { maxStack := 2, maxLocals := 1, code := prog_49_method_5_code, exceptionTable := #[], attributes := #[] }
def k10m3 : Method := { name := "sort", desc := "()V", sig := { parameters := [], returnType := none }, accessFlags := 0, code := some k10c3 }
def k10c4 : Code := { maxStack := 1, maxLocals := 1, code := prog_49_method_6_code, exceptionTable := #[], attributes := #[] }
def k10m4 : Method := { name := "blockCount", desc := "()I", sig := { parameters := [], returnType := some .int }, accessFlags := 0, code := some k10c4 }
def k10c5 : Code := { maxStack := 3, maxLocals := 2, code := prog_49_method_7_code, exceptionTable := #[], attributes := #[] }
def k10m5 : Method := { name := "block", desc := "(I)I", sig := { parameters := [.int], returnType := some .int }, accessFlags := 0, code := some k10c5 }
def k10c6 : Code := { maxStack := 5, maxLocals := 7, code := prog_49_method_8_code, exceptionTable := #[], attributes := #[] }
def k10m6 : Method := { name := "next", desc := "(II)I", sig := { parameters := [.int, .int], returnType := some .int }, accessFlags := 0, code := some k10c6 }
def k10c7 : Code := { maxStack := 5, maxLocals := 3, code := prog_49_method_9_code, exceptionTable := #[], attributes := #[] }
def k10m7 : Method := { name := "clear", desc := "()V", sig := { parameters := [], returnType := none }, accessFlags := 0, code := some k10c7 }
/-- com/example/lockstep/lockstep/engine/VertexSet -/
def k10 : Class := { plain "com/example/lockstep/lockstep/engine/VertexSet" (some 0) with
  accessFlags := 48
  interfaces := #[]
  cf := some (fileOf pool10 15 #[] #[{ accessFlags := 0, nameIndex := 9, descriptorIndex := 35, attributes := #[] }, { accessFlags := 0, nameIndex := 46, descriptorIndex := 35, attributes := #[] }, { accessFlags := 2, nameIndex := 34, descriptorIndex := 35, attributes := #[] }, { accessFlags := 0, nameIndex := 49, descriptorIndex := 10, attributes := #[] }, { accessFlags := 0, nameIndex := 81, descriptorIndex := 39, attributes := #[] }, { accessFlags := 0, nameIndex := 82, descriptorIndex := 43, attributes := #[] }, { accessFlags := 0, nameIndex := 83, descriptorIndex := 84, attributes := #[] }, { accessFlags := 0, nameIndex := 71, descriptorIndex := 10, attributes := #[] }] 48 6 #[] #[{ accessFlags := 26, nameIndex := 72, descriptorIndex := 73, attributes := #[] }, { accessFlags := 18, nameIndex := 26, descriptorIndex := 27, attributes := #[] }, { accessFlags := 18, nameIndex := 30, descriptorIndex := 31, attributes := #[] }, { accessFlags := 18, nameIndex := 18, descriptorIndex := 19, attributes := #[] }, { accessFlags := 2, nameIndex := 22, descriptorIndex := 23, attributes := #[] }])
  fields := #[{ name := "WORDS_PER_BLOCK", type := .int, accessFlags := 26, slot := 0, constantValue := 0 }, { name := "words", type := (.array .long), accessFlags := 18, slot := 0, constantValue := 0 }, { name := "held", type := (.array .boolean), accessFlags := 18, slot := 1, constantValue := 0 }, { name := "blocks", type := (.object "com/example/lockstep/lockstep/engine/IndexList"), accessFlags := 18, slot := 2, constantValue := 0 }, { name := "sorted", type := .boolean, accessFlags := 2, slot := 3, constantValue := 0 }]
  methods := #[k10m0, k10m1, k10m2, k10m3, k10m4, k10m5, k10m6, k10m7]
  instanceTypes := #[(.array .long), (.array .boolean), (.object "com/example/lockstep/lockstep/engine/IndexList"), .boolean]
  staticTypes := #[.int]
  resolved := Array.replicate 87 none
  statics := none }

def pool11 : Array CpInfo := pool [(2, .class_ 4), (1, u "java/lang/Object"), (6, .class_ 13), (1, u "com/example/lockstep/lockstep/engine/Engine"), (0, u "master"), (0, u "Lcom/example/lockstep/lockstep/engine/Master;"), (8, u "graph"), (0, u "Lcom/example/lockstep/lockstep/graph/Graph;"), (2, u "program"), (0, u "Lcom/example/lockstep/lockstep/engine/VertexProgram;"), (46, u "aggregates"), (0, u "Ljava/util/List;"), (2, u "blockCount"), (0, u "(I)I"), (2, u "blocks"), (0, u "I"), (2, u "valueType"), (3, u "Lcom/example/lockstep/lockstep/graph/NumberType;"), (2, u "messageType"), (12, u "values"), (0, u "[J"), (2, u "halted"), (0, u "[Z"), (0, .class_ 115), (0, u "com/example/lockstep/lockstep/engine/Engine$Broadcasts"), (5, u "currentOut"), (0, u "Lcom/example/lockstep/lockstep/engine/Engine$Broadcasts;"), (2, u "previousOut"), (2, u "currentIn"), (2, u "previousIn"), (9, u "addressed"), (0, u "Lcom/example/lockstep/lockstep/engine/AddressedMessages;"), (7, u "frontier"), (0, u "Lcom/example/lockstep/lockstep/engine/VertexSet;"), (13, u "listingLimit"), (0, u "J"), (53, .class_ 221), (0, u "com/example/lockstep/lockstep/engine/Engine$Worker"), (20, u "superstep"), (16, u "visits"), (59, u "listedOnly"), (0, u "Z"), (46, u "blockEnd"), (0, u "(II)I"), (32, .long 1024), (1, .methodref 404 405), (0, .class_ 406), (0, .nameAndType 407 408), (0, u "java/lang/Math"), (0, u "min"), (0, u "(JJ)J"), (0, u "BLOCK_SIZE"), (2, u "LISTING_SHARE")] 35

def k11c0 : Code := { maxStack := 2, maxLocals := 1, code := prog_22_method_11_code, exceptionTable := #[], attributes := #[] }
def k11m0 : Method := { name := "blockCount", desc := "(I)I", sig := { parameters := [.int], returnType := some .int }, accessFlags := 8, code := some k11c0 }
def k11c1 : Code := { maxStack := 6, maxLocals := 2, code := prog_22_method_12_code, exceptionTable := #[], attributes := #[] }
def k11m1 : Method := { name := "blockEnd", desc := "(II)I", sig := { parameters := [.int, .int], returnType := some .int }, accessFlags := 8, code := some k11c1 }
/-- com/example/lockstep/lockstep/engine/Engine -/
def k11 : Class := { plain "com/example/lockstep/lockstep/engine/Engine" (some 0) with
  accessFlags := 49
  interfaces := #[]
  cf := some (fileOf pool11 11 #[.nestMembers #[220, 114]] #[{ accessFlags := 8, nameIndex := 80, descriptorIndex := 81, attributes := #[] }, { accessFlags := 8, nameIndex := 367, descriptorIndex := 368, attributes := #[] }] 49 2 #[] #[{ accessFlags := 24, nameIndex := 409, descriptorIndex := 85, attributes := #[] }, { accessFlags := 26, nameIndex := 412, descriptorIndex := 85, attributes := #[] }, { accessFlags := 16, nameIndex := 24, descriptorIndex := 25, attributes := #[] }, { accessFlags := 18, nameIndex := 28, descriptorIndex := 29, attributes := #[] }, { accessFlags := 18, nameIndex := 76, descriptorIndex := 77, attributes := #[] }, { accessFlags := 18, nameIndex := 14, descriptorIndex := 15, attributes := #[] }, { accessFlags := 18, nameIndex := 84, descriptorIndex := 85, attributes := #[] }, { accessFlags := 16, nameIndex := 88, descriptorIndex := 92, attributes := #[] }, { accessFlags := 16, nameIndex := 95, descriptorIndex := 92, attributes := #[] }, { accessFlags := 16, nameIndex := 108, descriptorIndex := 109, attributes := #[] }, { accessFlags := 16, nameIndex := 112, descriptorIndex := 113, attributes := #[] }, { accessFlags := 0, nameIndex := 121, descriptorIndex := 122, attributes := #[] }, { accessFlags := 0, nameIndex := 125, descriptorIndex := 122, attributes := #[] }, { accessFlags := 0, nameIndex := 128, descriptorIndex := 122, attributes := #[] }, { accessFlags := 0, nameIndex := 131, descriptorIndex := 122, attributes := #[] }, { accessFlags := 16, nameIndex := 141, descriptorIndex := 142, attributes := #[] }, { accessFlags := 18, nameIndex := 150, descriptorIndex := 151, attributes := #[] }, { accessFlags := 2, nameIndex := 319, descriptorIndex := 320, attributes := #[] }, { accessFlags := 18, nameIndex := 165, descriptorIndex := 166, attributes := #[] }, { accessFlags := 0, nameIndex := 242, descriptorIndex := 85, attributes := #[] }, { accessFlags := 2, nameIndex := 259, descriptorIndex := 166, attributes := #[] }])
  fields := #[{ name := "BLOCK_SIZE", type := .int, accessFlags := 24, slot := 0, constantValue := 0 }, { name := "LISTING_SHARE", type := .int, accessFlags := 26, slot := 1, constantValue := 0 }, { name := "graph", type := (.object "com/example/lockstep/lockstep/graph/Graph"), accessFlags := 16, slot := 0, constantValue := 0 }, { name := "program", type := (.object "com/example/lockstep/lockstep/engine/VertexProgram"), accessFlags := 18, slot := 1, constantValue := 0 }, { name := "aggregates", type := (.object "java/util/List"), accessFlags := 18, slot := 2, constantValue := 0 }, { name := "master", type := (.object "com/example/lockstep/lockstep/engine/Master"), accessFlags := 18, slot := 3, constantValue := 0 }, { name := "blocks", type := .int, accessFlags := 18, slot := 4, constantValue := 0 }, { name := "valueType", type := (.object "com/example/lockstep/lockstep/graph/NumberType"), accessFlags := 16, slot := 5, constantValue := 0 }, { name := "messageType", type := (.object "com/example/lockstep/lockstep/graph/NumberType"), accessFlags := 16, slot := 6, constantValue := 0 }, { name := "values", type := (.array .long), accessFlags := 16, slot := 7, constantValue := 0 }, { name := "halted", type := (.array .boolean), accessFlags := 16, slot := 8, constantValue := 0 }, { name := "currentOut", type := (.object "com/example/lockstep/lockstep/engine/Engine$Broadcasts"), accessFlags := 0, slot := 9, constantValue := 0 }, { name := "previousOut", type := (.object "com/example/lockstep/lockstep/engine/Engine$Broadcasts"), accessFlags := 0, slot := 10, constantValue := 0 }, { name := "currentIn", type := (.object "com/example/lockstep/lockstep/engine/Engine$Broadcasts"), accessFlags := 0, slot := 11, constantValue := 0 }, { name := "previousIn", type := (.object "com/example/lockstep/lockstep/engine/Engine$Broadcasts"), accessFlags := 0, slot := 12, constantValue := 0 }, { name := "addressed", type := (.object "com/example/lockstep/lockstep/engine/AddressedMessages"), accessFlags := 16, slot := 13, constantValue := 0 }, { name := "frontier", type := (.object "com/example/lockstep/lockstep/engine/VertexSet"), accessFlags := 18, slot := 14, constantValue := 0 }, { name := "listedOnly", type := .boolean, accessFlags := 2, slot := 15, constantValue := 0 }, { name := "listingLimit", type := .long, accessFlags := 18, slot := 16, constantValue := 0 }, { name := "superstep", type := .int, accessFlags := 0, slot := 17, constantValue := 0 }, { name := "visits", type := .long, accessFlags := 2, slot := 18, constantValue := 0 }]
  methods := #[k11m0, k11m1]
  instanceTypes := #[(.object "com/example/lockstep/lockstep/graph/Graph"), (.object "com/example/lockstep/lockstep/engine/VertexProgram"), (.object "java/util/List"), (.object "com/example/lockstep/lockstep/engine/Master"), .int, (.object "com/example/lockstep/lockstep/graph/NumberType"), (.object "com/example/lockstep/lockstep/graph/NumberType"), (.array .long), (.array .boolean), (.object "com/example/lockstep/lockstep/engine/Engine$Broadcasts"), (.object "com/example/lockstep/lockstep/engine/Engine$Broadcasts"), (.object "com/example/lockstep/lockstep/engine/Engine$Broadcasts"), (.object "com/example/lockstep/lockstep/engine/Engine$Broadcasts"), (.object "com/example/lockstep/lockstep/engine/AddressedMessages"), (.object "com/example/lockstep/lockstep/engine/VertexSet"), .boolean, .long, .int, .long]
  staticTypes := #[.int, .int]
  resolved := Array.replicate 448 none
  statics := none }

def pool12 : Array CpInfo := pool [(1, .methodref 2 3), (0, .class_ 4), (0, .nameAndType 5 6), (0, u "java/lang/Object"), (0, u "<init>"), (0, u "()V"), (0, .fieldref 8 9), (0, .class_ 10), (0, .nameAndType 11 12), (0, u "com/example/lockstep/lockstep/engine/IndexList"), (0, u "indices"), (0, u "[I"), (0, .fieldref 8 14), (0, .nameAndType 15 16), (0, u "size"), (0, u "I"), (0, .long 2), (3, .long 2147483639), (1, .methodref 24 25), (0, .class_ 26), (0, .nameAndType 27 28), (0, u "java/lang/Math"), (0, u "min"), (0, u "(JJ)J"), (12, u "add"), (0, u "(I)V"), (1, u "()I"), (0, u "get"), (0, u "(I)I"), (2, u "clear")] 2

def k12c0 : Code := { maxStack := 2, maxLocals := 1, code := prog_26_method_1_code, exceptionTable := #[], attributes := #[] }
def k12m0 : Method := { name := "<init>", desc := "()V", sig := { parameters := [], returnType := none }, accessFlags := 0, code := some k12c0 }
def k12c1 : Code := { maxStack := 6, maxLocals := 2, code := prog_26_method_2_code, exceptionTable := #[], attributes := #[] }
def k12m1 : Method := { name := "add", desc := "(I)V", sig := { parameters := [.int], returnType := none }, accessFlags := 0, code := some k12c1 }
def k12c2 : Code := { maxStack := 1, maxLocals := 1, code := prog_26_method_3_code, exceptionTable := #[], attributes := #[] }
def k12m2 : Method := { name := "size", desc := "()I", sig := { parameters := [], returnType := some .int }, accessFlags := 0, code := some k12c2 }
def k12c3 : Code := { maxStack := 2, maxLocals := 2, code := prog_26_method_4_code, exceptionTable := #[], attributes := #[] }
def k12m3 : Method := { name := "get", desc := "(I)I", sig := { parameters := [.int], returnType := some .int }, accessFlags := 0, code := some k12c3 }
def k12c4 : Code := { maxStack := 2, maxLocals := 1, code := prog_26_method_7_code, exceptionTable := #[], attributes := #[] }
def k12m4 : Method := { name := "clear", desc := "()V", sig := { parameters := [], returnType := none }, accessFlags := 0, code := some k12c4 }
/-- com/example/lockstep/lockstep/engine/IndexList -/
def k12 : Class := { plain "com/example/lockstep/lockstep/engine/IndexList" (some 0) with
  accessFlags := 48
  interfaces := #[]
  cf := some (fileOf pool12 8 #[] #[{ accessFlags := 0, nameIndex := 5, descriptorIndex := 6, attributes := #[] }, { accessFlags := 0, nameIndex := 41, descriptorIndex := 42, attributes := #[] }, { accessFlags := 0, nameIndex := 15, descriptorIndex := 44, attributes := #[] }, { accessFlags := 0, nameIndex := 45, descriptorIndex := 46, attributes := #[] }, { accessFlags := 0, nameIndex := 49, descriptorIndex := 6, attributes := #[] }] 48 2 #[] #[{ accessFlags := 2, nameIndex := 11, descriptorIndex := 12, attributes := #[] }, { accessFlags := 2, nameIndex := 15, descriptorIndex := 16, attributes := #[] }])
  fields := #[{ name := "indices", type := (.array .int), accessFlags := 2, slot := 0, constantValue := 0 }, { name := "size", type := .int, accessFlags := 2, slot := 1, constantValue := 0 }]
  methods := #[k12m0, k12m1, k12m2, k12m3, k12m4]
  instanceTypes := #[(.array .int), .int]
  staticTypes := #[]
  resolved := Array.replicate 52 none
  statics := none }

def pool13 : Array CpInfo := pool [(2, .class_ 4), (1, u "java/lang/Object"), (0, u "<init>"), (0, u "()V"), (1, .class_ 10), (1, u "java/lang/Number"), (2, .class_ 14), (0, u "java/io/Serializable"), (0, u "serialVersionUID"), (0, u "J")] 20

def k13m0 : Method := { name := "<init>", desc := "()V", sig := { parameters := [], returnType := none }, accessFlags := 1, code := none }
/-- java/lang/Number -/
def k13 : Class := { plain "java/lang/Number" (some 0) with
  accessFlags := 1057
  interfaces := #[3]
  cf := some (fileOf pool13 8 #[] #[{ accessFlags := 1, nameIndex := 5, descriptorIndex := 6, attributes := #[] }] 1057 2 #[13] #[{ accessFlags := 26, nameIndex := 15, descriptorIndex := 16, attributes := #[] }])
  fields := #[{ name := "serialVersionUID", type := .long, accessFlags := 26, slot := 0, constantValue := 0 }]
  methods := #[k13m0]
  instanceTypes := #[]
  staticTypes := #[.long]
  resolved := Array.replicate 37 none
  statics := none }

def pool14 : Array CpInfo := pool [(1, .class_ 2), (0, u "java/lang/Long"), (15, .class_ 20), (1, u "java/lang/Integer"), (80, u "(J)I"), (133, .class_ 237), (1, u "java/lang/Long$LongCache"), (33, .class_ 272), (0, u "java/lang/Number"), (2, u "value"), (0, u "J"), (33, u "(I)I"), (0, .methodref 18 312), (0, .nameAndType 313 310), (0, u "numberOfTrailingZeros"), (47, u "TYPE"), (0, u "Ljava/lang/Class;"), (0, .class_ 364), (0, u "java/lang/Comparable"), (0, .class_ 366), (0, u "java/lang/constant/Constable"), (0, .class_ 368), (0, u "java/lang/constant/ConstantDesc"), (0, u "MIN_VALUE"), (1, u "MAX_VALUE"), (4, u "SIZE"), (0, u "I"), (1, u "BYTES"), (1, u "serialVersionUID")] 142

def k14c0 : Code := { maxStack := 4, maxLocals := 3, code := jdk_35_method_49_code, exceptionTable := #[], attributes := #[] }
def k14m0 : Method := { name := "numberOfTrailingZeros", desc := "(J)I", sig := { parameters := [.long], returnType := some .int }, accessFlags := 9, code := some k14c0 }
/-- java/lang/Long -/
def k14 : Class := { plain "java/lang/Long" (some 13) with
  accessFlags := 49
  interfaces := #[4, 6, 7]
  cf := some (fileOf pool14 1 #[.nestMembers #[235]] #[{ accessFlags := 9, nameIndex := 313, descriptorIndex := 101, attributes := #[] }] 49 271 #[363, 365, 367] #[{ accessFlags := 25, nameIndex := 369, descriptorIndex := 276, attributes := #[] }, { accessFlags := 25, nameIndex := 371, descriptorIndex := 276, attributes := #[] }, { accessFlags := 25, nameIndex := 361, descriptorIndex := 362, attributes := #[] }, { accessFlags := 18, nameIndex := 275, descriptorIndex := 276, attributes := #[] }, { accessFlags := 25, nameIndex := 376, descriptorIndex := 377, attributes := #[] }, { accessFlags := 25, nameIndex := 379, descriptorIndex := 377, attributes := #[] }, { accessFlags := 26, nameIndex := 381, descriptorIndex := 276, attributes := #[] }])
  fields := #[{ name := "MIN_VALUE", type := .long, accessFlags := 25, slot := 0, constantValue := 0 }, { name := "MAX_VALUE", type := .long, accessFlags := 25, slot := 1, constantValue := 0 }, { name := "TYPE", type := (.object "java/lang/Class"), accessFlags := 25, slot := 2, constantValue := 0 }, { name := "value", type := .long, accessFlags := 18, slot := 0, constantValue := 0 }, { name := "SIZE", type := .int, accessFlags := 25, slot := 3, constantValue := 0 }, { name := "BYTES", type := .int, accessFlags := 25, slot := 4, constantValue := 0 }, { name := "serialVersionUID", type := .long, accessFlags := 26, slot := 5, constantValue := 0 }]
  methods := #[k14m0]
  instanceTypes := #[.long]
  staticTypes := #[.long, .long, (.object "java/lang/Class"), .int, .int, .long]
  resolved := Array.replicate 524 none
  statics := none }

def pool15 : Array CpInfo := pool [(1, .class_ 2), (0, u "java/lang/Integer"), (16, u "digits"), (0, u "[C"), (33, u "(I)I"), (30, u "DigitOnes"), (0, u "[B"), (2, u "DigitTens"), (99, .class_ 190), (0, u "java/lang/Integer$IntegerCache"), (3, u "I"), (8, .class_ 204), (0, u "java/lang/Number"), (2, u "value"), (56, .integer 65536), (37, u "TYPE"), (0, u "Ljava/lang/Class;"), (0, .class_ 305), (0, u "java/lang/Comparable"), (0, .class_ 307), (0, u "java/lang/constant/Constable"), (0, .class_ 309), (0, u "java/lang/constant/ConstantDesc"), (0, u "MIN_VALUE"), (1, u "MAX_VALUE"), (3, u "SIZE"), (1, u "BYTES"), (1, u "serialVersionUID"), (0, u "J"), (84, u "numberOfTrailingZeros")] 46

def k15c0 : Code := { maxStack := 3, maxLocals := 2, code := jdk_33_method_48_code, exceptionTable := #[], attributes := #[] }
def k15m0 : Method := { name := "numberOfTrailingZeros", desc := "(I)I", sig := { parameters := [.int], returnType := some .int }, accessFlags := 9, code := some k15c0 }
/-- java/lang/Integer -/
def k15 : Class := { plain "java/lang/Integer" (some 13) with
  accessFlags := 49
  interfaces := #[4, 6, 7]
  cf := some (fileOf pool15 1 #[.nestMembers #[189]] #[{ accessFlags := 9, nameIndex := 406, descriptorIndex := 54, attributes := #[] }] 49 203 #[304, 306, 308] #[{ accessFlags := 25, nameIndex := 310, descriptorIndex := 194, attributes := #[] }, { accessFlags := 25, nameIndex := 312, descriptorIndex := 194, attributes := #[] }, { accessFlags := 25, nameIndex := 302, descriptorIndex := 303, attributes := #[] }, { accessFlags := 24, nameIndex := 19, descriptorIndex := 20, attributes := #[] }, { accessFlags := 24, nameIndex := 89, descriptorIndex := 86, attributes := #[] }, { accessFlags := 24, nameIndex := 85, descriptorIndex := 86, attributes := #[] }, { accessFlags := 18, nameIndex := 207, descriptorIndex := 194, attributes := #[] }, { accessFlags := 25, nameIndex := 316, descriptorIndex := 194, attributes := #[] }, { accessFlags := 25, nameIndex := 318, descriptorIndex := 194, attributes := #[] }, { accessFlags := 26, nameIndex := 320, descriptorIndex := 321, attributes := #[] }])
  fields := #[{ name := "MIN_VALUE", type := .int, accessFlags := 25, slot := 0, constantValue := 0 }, { name := "MAX_VALUE", type := .int, accessFlags := 25, slot := 1, constantValue := 0 }, { name := "TYPE", type := (.object "java/lang/Class"), accessFlags := 25, slot := 2, constantValue := 0 }, { name := "digits", type := (.array .char), accessFlags := 24, slot := 3, constantValue := 0 }, { name := "DigitTens", type := (.array .byte), accessFlags := 24, slot := 4, constantValue := 0 }, { name := "DigitOnes", type := (.array .byte), accessFlags := 24, slot := 5, constantValue := 0 }, { name := "value", type := .int, accessFlags := 18, slot := 0, constantValue := 0 }, { name := "SIZE", type := .int, accessFlags := 25, slot := 6, constantValue := 0 }, { name := "BYTES", type := .int, accessFlags := 25, slot := 7, constantValue := 0 }, { name := "serialVersionUID", type := .long, accessFlags := 26, slot := 8, constantValue := 0 }]
  methods := #[k15m0]
  instanceTypes := #[.int]
  staticTypes := #[.int, .int, (.object "java/lang/Class"), (.array .char), (.array .byte), (.array .byte), .int, .int, .long]
  resolved := Array.replicate 453 none
  statics := none }

def pool16 : Array CpInfo := pool [(1, .class_ 2), (0, u "java/lang/Math"), (1, .class_ 6), (1, u "java/lang/Object"), (0, u "<init>"), (0, u "()V"), (89, .class_ 100), (1, u "java/lang/Math$RandomNumberGeneratorHolder"), (20, u "(JJ)J"), (50, u "negativeZeroFloatBits"), (0, u "J"), (2, u "negativeZeroDoubleBits"), (24, u "min"), (43, u "$assertionsDisabled"), (0, u "Z"), (91, u "twoToTheDoubleScaleDown"), (0, u "D"), (4, u "twoToTheDoubleScaleUp"), (9, u "E"), (3, u "PI"), (2, u "TAU"), (2, u "DEGREES_TO_RADIANS"), (0, u "RADIANS_TO_DEGREES")] 94

def k16m0 : Method := { name := "<init>", desc := "()V", sig := { parameters := [], returnType := none }, accessFlags := 2, code := none }
def k16c1 : Code := { maxStack := 4, maxLocals := 4, code := jdk_29_method_70_code, exceptionTable := #[], attributes := #[] }
def k16m1 : Method := { name := "min", desc := "(JJ)J", sig := { parameters := [.long, .long], returnType := some .long }, accessFlags := 9, code := some k16c1 }
/-- java/lang/Math -/
def k16 : Class := { plain "java/lang/Math" (some 0) with
  accessFlags := 49
  interfaces := #[]
  cf := some (fileOf pool16 1 #[.nestMembers #[98]] #[{ accessFlags := 2, nameIndex := 7, descriptorIndex := 8, attributes := #[] }, { accessFlags := 9, nameIndex := 201, descriptorIndex := 121, attributes := #[] }] 49 4 #[] #[{ accessFlags := 25, nameIndex := 354, descriptorIndex := 339, attributes := #[] }, { accessFlags := 25, nameIndex := 358, descriptorIndex := 339, attributes := #[] }, { accessFlags := 25, nameIndex := 361, descriptorIndex := 339, attributes := #[] }, { accessFlags := 26, nameIndex := 364, descriptorIndex := 339, attributes := #[] }, { accessFlags := 26, nameIndex := 365, descriptorIndex := 339, attributes := #[] }, { accessFlags := 26, nameIndex := 172, descriptorIndex := 173, attributes := #[] }, { accessFlags := 26, nameIndex := 176, descriptorIndex := 173, attributes := #[] }, { accessFlags := 8, nameIndex := 344, descriptorIndex := 339, attributes := #[] }, { accessFlags := 8, nameIndex := 338, descriptorIndex := 339, attributes := #[] }, { accessFlags := 4120, nameIndex := 245, descriptorIndex := 246, attributes := #[] }])
  fields := #[{ name := "E", type := .double, accessFlags := 25, slot := 0, constantValue := 0 }, { name := "PI", type := .double, accessFlags := 25, slot := 1, constantValue := 0 }, { name := "TAU", type := .double, accessFlags := 25, slot := 2, constantValue := 0 }, { name := "DEGREES_TO_RADIANS", type := .double, accessFlags := 26, slot := 3, constantValue := 0 }, { name := "RADIANS_TO_DEGREES", type := .double, accessFlags := 26, slot := 4, constantValue := 0 }, { name := "negativeZeroFloatBits", type := .long, accessFlags := 26, slot := 5, constantValue := 0 }, { name := "negativeZeroDoubleBits", type := .long, accessFlags := 26, slot := 6, constantValue := 0 }, { name := "twoToTheDoubleScaleUp", type := .double, accessFlags := 8, slot := 7, constantValue := 0 }, { name := "twoToTheDoubleScaleDown", type := .double, accessFlags := 8, slot := 8, constantValue := 0 }, { name := "$assertionsDisabled", type := .boolean, accessFlags := 4120, slot := 9, constantValue := 0 }]
  methods := #[k16m0, k16m1]
  instanceTypes := #[]
  staticTypes := #[.double, .double, .double, .double, .double, .long, .long, .double, .double, .boolean]
  resolved := Array.replicate 460 none
  statics := none }

def pool17 : Array CpInfo := pool [(2, .class_ 4), (1, u "java/lang/Object"), (0, u "<init>"), (0, u "()V"), (5, u "([IIII)V"), (0, .methodref 14 15), (0, .class_ 16), (0, .nameAndType 17 18), (0, u "java/util/Arrays"), (0, u "rangeCheck"), (0, u "(III)V"), (55, .class_ 76), (1, u "java/util/Arrays$NaturalOrder"), (36, .class_ 115), (1, u "java/util/Arrays$LegacyMergeSort"), (1, u "Z"), (257, .class_ 376), (0, u "java/util/Arrays$ArrayList"), (68, u "$assertionsDisabled"), (269, u "MIN_ARRAY_SORT_GRAN"), (0, u "I"), (2, u "INSERTIONSORT_THRESHOLD"), (120, u "fill"), (3, u "([JIIJ)V"), (130, .class_ 976), (0, u "java/util/Arrays$ArrayItr")] 52

def k17m0 : Method := { name := "<init>", desc := "()V", sig := { parameters := [], returnType := none }, accessFlags := 2, code := none }
def k17c1 : Code := { maxStack := 4, maxLocals := 3, code := jdk_65_method_30_code, exceptionTable := #[], attributes := #[] }
def k17m1 : Method := { name := "rangeCheck", desc := "(III)V", sig := { parameters := [.int, .int, .int], returnType := none }, accessFlags := 8, code := some k17c1 }
def k17c2 : Code := { maxStack := 4, maxLocals := 6, code := jdk_65_method_102_code, exceptionTable := #[], attributes := #[] }
def k17m2 : Method := { name := "fill", desc := "([JIIJ)V", sig := { parameters := [(.array .long), .int, .int, .long], returnType := none }, accessFlags := 9, code := some k17c2 }
def k17c3 : Code := { maxStack := 3, maxLocals := 5, code := jdk_65_method_104_code, exceptionTable := #[], attributes := #[] }
def k17m3 : Method := { name := "fill", desc := "([IIII)V", sig := { parameters := [(.array .int), .int, .int, .int], returnType := none }, accessFlags := 9, code := some k17c3 }
/-- java/util/Arrays -/
def k17 : Class := { plain "java/util/Arrays" (some 0) with
  accessFlags := 49
  interfaces := #[]
  cf := some (fileOf pool17 14 #[.nestMembers #[975, 375, 113, 74]] #[{ accessFlags := 2, nameIndex := 5, descriptorIndex := 6, attributes := #[] }, { accessFlags := 8, nameIndex := 17, descriptorIndex := 18, attributes := #[] }, { accessFlags := 9, nameIndex := 840, descriptorIndex := 844, attributes := #[] }, { accessFlags := 9, nameIndex := 840, descriptorIndex := 12, attributes := #[] }] 49 2 #[] #[{ accessFlags := 26, nameIndex := 715, descriptorIndex := 716, attributes := #[] }, { accessFlags := 26, nameIndex := 719, descriptorIndex := 716, attributes := #[] }, { accessFlags := 4120, nameIndex := 445, descriptorIndex := 117, attributes := #[] }])
  fields := #[{ name := "MIN_ARRAY_SORT_GRAN", type := .int, accessFlags := 26, slot := 0, constantValue := 0 }, { name := "INSERTIONSORT_THRESHOLD", type := .int, accessFlags := 26, slot := 1, constantValue := 0 }, { name := "$assertionsDisabled", type := .boolean, accessFlags := 4120, slot := 2, constantValue := 0 }]
  methods := #[k17m0, k17m1, k17m2, k17m3]
  instanceTypes := #[]
  staticTypes := #[.int, .int, .boolean]
  resolved := Array.replicate 1029 none
  statics := none }

def pool18 : Array CpInfo := pool [(1, u "java/lang/Cloneable"), (0, .class_ 1), (0, u "java/lang/Object"), (0, .class_ 3)] 3

/-- java/lang/Cloneable -/
def k18 : Class := { plain "java/lang/Cloneable" (some 0) with
  accessFlags := 1537
  interfaces := #[]
  cf := some (fileOf pool18 2 #[] #[] 1537 4 #[] #[])
  fields := #[]
  methods := #[]
  instanceTypes := #[]
  staticTypes := #[]
  resolved := Array.replicate 8 none
  statics := none }

/-- the primitive boolean -/
def k19 : Class := { plain "boolean" none with kind := .primitive 'Z', accessFlags := 0x411 }
/-- [Z -/
def k20 : Class := { plain "[Z" (some 0) with kind := .array 19 .boolean, interfaces := #[18, 3], accessFlags := 1041 }

/-- the primitive byte -/
def k21 : Class := { plain "byte" none with kind := .primitive 'B', accessFlags := 0x411 }
/-- [B -/
def k22 : Class := { plain "[B" (some 0) with kind := .array 21 .byte, interfaces := #[18, 3], accessFlags := 1041 }

/-- the primitive int -/
def k23 : Class := { plain "int" none with kind := .primitive 'I', accessFlags := 0x411 }
/-- [I -/
def k24 : Class := { plain "[I" (some 0) with kind := .array 23 .int, interfaces := #[18, 3], accessFlags := 1041 }

/-- the primitive long -/
def k25 : Class := { plain "long" none with kind := .primitive 'J', accessFlags := 0x411 }
/-- [J -/
def k26 : Class := { plain "[J" (some 0) with kind := .array 25 .long, interfaces := #[18, 3], accessFlags := 1041 }

/-- [Lcom/example/lockstep/lockstep/engine/AddressedMessages$Outbox; -/
def k27 : Class := { plain "[Lcom/example/lockstep/lockstep/engine/AddressedMessages$Outbox;" (some 0) with kind := .array 9 (.object "com/example/lockstep/lockstep/engine/AddressedMessages$Outbox"), interfaces := #[18, 3], accessFlags := 1041 }

def heap : Heap := #[]
def classes : Array Class := #[k0, k1, k2, k3, k4, k5, k6, k7, k8, k9, k10, k11, k12, k13, k14, k15, k16, k17, k18, k19, k20, k21, k22, k23, k24, k25, k26, k27]
def interned : List (Array UInt16 × Addr) := []
def slotsUsed : Nat := 0
def theMethod : MethodId := ⟨1, 4⟩
def args0 : Array Value := #[.int 2, .int 6, .int 7, .int 8, .int 2, .int 3]
def aboutOver (below : List Frame) : State where
  vm := { classes := classes, interned := interned.toArray }
  heap := heap
  slotsUsed := slotsUsed
  threads := #[{ frames := .invoking theMethod args0 :: below }]
def below0 : List Frame := [.native { method := ⟨0, 0⟩, args := #[] }]
def about1 : State := aboutOver below0
def p0 : Program := .bare "" "" ""
def e0 : Env := launch0.env 0 0 0
theorem w_frames : about1.frames = Frame.invoking theMethod args0 :: below0 := rfl
set_option maxRecDepth 65536 in
theorem w_args : argsFit about1.vm theMethod args0 = true := by decide +kernel
set_option maxRecDepth 65536 in
theorem w_heap : heapFits about1 = true := by decide +kernel
set_option maxRecDepth 65536 in
theorem w_runnable : about1.curStatus? = some .runnable := by decide +kernel
set_option maxRecDepth 65536 in
theorem w_alone : about1.alone = true := by decide +kernel
set_option maxRecDepth 65536 in
theorem w_named : about1.methodNamed? x = some theMethod := by decide +kernel
set_option maxRecDepth 65536 in
theorem w_hears : about1.hears theMethod below0 = true := by decide +kernel
set_option maxRecDepth 65536 in
theorem w_ripe : about1.ripe theMethod args0 below0 = true := by decide +kernel
theorem w_running : about1.status = .running := rfl
set_option maxRecDepth 65536 in
theorem w_room : about1.hasRoom e0.platform room_1 = true :=
  launch0.hasRoom_least _ room_1 (by decide +kernel) (by decide +kernel) (by decide +kernel) (by decide +kernel) (by decide +kernel) (by decide +kernel)
theorem allAtoms_all (ts : List Jvm.Cond) (a : Array Jvm.Value) (st : Jvm.State) : (allAtoms ts).before a st = ts.all (fun c => c.before a st) := by
  induction ts with
  | nil => rfl
  | cons c t ih =>
    show (Jvm.Cond.and c (allAtoms t)).before a st = _
    rw [Jvm.Cond.before_and, ih, List.all_cons]
def words1 : List Jvm.Cond := Jvm.Cond.code x code maxLocals ret :: tables_1
/-- a 'code' word, met by the world's own term for the bytes: nothing is compared byte by byte -/
theorem code_word {y : MethodName} {bytes : ByteArray} {mx : Nat} {rt : Option FieldType} {a : Array Value} {s : State} {m : MethodId} {meth : Method} {c : Code} (h1 : s.methodNamed? y = some m) (h2 : s.vm.method? m = some meth) (h3 : meth.code = some c) (h4 : c.code = bytes)
    (h5 : (c.maxLocals == mx && c.exceptionTable.isEmpty && decide (c.maxStack ≤ mostOperands) && decide (meth.sig.returnType = rt) && !meth.locks && decide (parseMethodDescriptor y.desc = some meth.sig)) = true) : (Jvm.Cond.code y bytes mx rt).before a s = true := by
  simp only [Bool.and_eq_true, beq_iff_eq, Bool.not_eq_true', decide_eq_true_eq] at h5
  obtain ⟨⟨⟨⟨⟨g1, g2⟩, g3⟩, g4⟩, g5⟩, g6⟩ := h5
  simp [Cond.before, Cond.holds, Cond.value, h1, h2, h3, h4, g1, g2, g3, g4, g5, g6]
def isCode : Jvm.Cond → Bool
  | .code _ _ _ _ => true
  | _ => false
theorem all_split {L : List Jvm.Cond} {P : Jvm.Cond → Bool} (h1 : L.all (fun c => isCode c || P c) = true) (h2 : ∀ c ∈ L.filter isCode, P c = true) : L.all P = true := by
  refine List.all_eq_true.mpr fun c hc => ?_
  have h := List.all_eq_true.mp h1 c hc
  rcases Bool.eq_false_or_eq_true (isCode c) with hi | hi
  · exact h2 c (List.mem_filter.mpr ⟨hc, hi⟩)
  · simpa [hi] using h
set_option maxRecDepth 65536 in
theorem w_c0 : (Jvm.Cond.code x code maxLocals ret).before args0 about1 = true := code_word (m := ⟨1, 4⟩) (meth := k1m4) (c := k1c4) (by decide +kernel) rfl rfl rfl (by decide +kernel)
set_option maxRecDepth 65536 in
theorem w_c1 : (Jvm.Cond.code ({ cls := "com/example/lockstep/lockstep/engine/AddressedMessages", name := "<init>", desc := "(IILjava/lang/String;)V" } : Jvm.MethodName) prog_18_method_1_code (4 : Nat) (Option.none : Option Jvm.ClassFile.FieldType)).before args0 about1 = true := code_word (m := ⟨2, 0⟩) (meth := k2m0) (c := k2c0) (by decide +kernel) rfl rfl rfl (by decide +kernel)
set_option maxRecDepth 65536 in
theorem w_c2 : (Jvm.Cond.code ({ cls := "java/lang/Object", name := "<init>", desc := "()V" } : Jvm.MethodName) object_method_1_code (1 : Nat) (Option.none : Option Jvm.ClassFile.FieldType)).before args0 about1 = true := code_word (m := ⟨0, 0⟩) (meth := k0m0) (c := k0c0) (by decide +kernel) rfl rfl rfl (by decide +kernel)
set_option maxRecDepth 65536 in
theorem w_c3 : (Jvm.Cond.code ({ cls := "com/example/lockstep/lockstep/engine/Engine", name := "blockCount", desc := "(I)I" } : Jvm.MethodName) prog_22_method_11_code (1 : Nat) (Option.some Jvm.ClassFile.FieldType.int)).before args0 about1 = true := code_word (m := ⟨11, 0⟩) (meth := k11m0) (c := k11c0) (by decide +kernel) rfl rfl rfl (by decide +kernel)
set_option maxRecDepth 65536 in
theorem w_c4 : (Jvm.Cond.code ({ cls := "com/example/lockstep/lockstep/engine/VertexSet", name := "<init>", desc := "(I)V" } : Jvm.MethodName) prog_49_method_1_code (2 : Nat) (Option.none : Option Jvm.ClassFile.FieldType)).before args0 about1 = true := code_word (m := ⟨10, 0⟩) (meth := k10m0) (c := k10c0) (by decide +kernel) rfl rfl rfl (by decide +kernel)
set_option maxRecDepth 65536 in
theorem w_c5 : (Jvm.Cond.code ({ cls := "com/example/lockstep/lockstep/engine/IndexList", name := "<init>", desc := "()V" } : Jvm.MethodName) prog_26_method_1_code (1 : Nat) (Option.none : Option Jvm.ClassFile.FieldType)).before args0 about1 = true := code_word (m := ⟨12, 0⟩) (meth := k12m0) (c := k12c0) (by decide +kernel) rfl rfl rfl (by decide +kernel)
set_option maxRecDepth 65536 in
theorem w_c6 : (Jvm.Cond.code ({ cls := "com/example/lockstep/lockstep/engine/AddressedMessages", name := "send", desc := "(IIIJ)V" } : Jvm.MethodName) prog_18_method_2_code (7 : Nat) (Option.none : Option Jvm.ClassFile.FieldType)).before args0 about1 = true := code_word (m := ⟨2, 1⟩) (meth := k2m1) (c := k2c1) (by decide +kernel) rfl rfl rfl (by decide +kernel)
set_option maxRecDepth 65536 in
theorem w_c7 : (Jvm.Cond.code ({ cls := "com/example/lockstep/lockstep/engine/AddressedMessages$Outbox", name := "<init>", desc := "(Lcom/example/lockstep/lockstep/engine/AddressedMessages;)V" } : Jvm.MethodName) prog_19_method_1_code (2 : Nat) (Option.none : Option Jvm.ClassFile.FieldType)).before args0 about1 = true := code_word (m := ⟨9, 0⟩) (meth := k9m0) (c := k9c0) (by decide +kernel) rfl rfl rfl (by decide +kernel)
set_option maxRecDepth 65536 in
theorem w_c8 : (Jvm.Cond.code ({ cls := "com/example/lockstep/lockstep/engine/AddressedMessages$Outbox", name := "add", desc := "(IIJ)V" } : Jvm.MethodName) prog_19_method_2_code (6 : Nat) (Option.none : Option Jvm.ClassFile.FieldType)).before args0 about1 = true := code_word (m := ⟨9, 1⟩) (meth := k9m1) (c := k9c1) (by decide +kernel) rfl rfl rfl (by decide +kernel)
set_option maxRecDepth 65536 in
theorem w_c9 : (Jvm.Cond.code ({ cls := "com/example/lockstep/lockstep/engine/AddressedMessages", name := "deliver", desc := "(I)Z" } : Jvm.MethodName) prog_18_method_9_code (11 : Nat) (Option.some Jvm.ClassFile.FieldType.boolean)).before args0 about1 = true := code_word (m := ⟨2, 4⟩) (meth := k2m4) (c := k2c4) (by decide +kernel) rfl rfl rfl (by decide +kernel)
set_option maxRecDepth 65536 in
theorem w_c10 : (Jvm.Cond.code ({ cls := "com/example/lockstep/lockstep/engine/VertexSet", name := "blockCount", desc := "()I" } : Jvm.MethodName) prog_49_method_6_code (1 : Nat) (Option.some Jvm.ClassFile.FieldType.int)).before args0 about1 = true := code_word (m := ⟨10, 4⟩) (meth := k10m4) (c := k10c4) (by decide +kernel) rfl rfl rfl (by decide +kernel)
set_option maxRecDepth 65536 in
theorem w_c11 : (Jvm.Cond.code ({ cls := "com/example/lockstep/lockstep/engine/IndexList", name := "size", desc := "()I" } : Jvm.MethodName) prog_26_method_3_code (1 : Nat) (Option.some Jvm.ClassFile.FieldType.int)).before args0 about1 = true := code_word (m := ⟨12, 2⟩) (meth := k12m2) (c := k12c2) (by decide +kernel) rfl rfl rfl (by decide +kernel)
set_option maxRecDepth 65536 in
theorem w_c12 : (Jvm.Cond.code ({ cls := "com/example/lockstep/lockstep/engine/VertexSet", name := "clear", desc := "()V" } : Jvm.MethodName) prog_49_method_9_code (3 : Nat) (Option.none : Option Jvm.ClassFile.FieldType)).before args0 about1 = true := code_word (m := ⟨10, 7⟩) (meth := k10m7) (c := k10c7) (by decide +kernel) rfl rfl rfl (by decide +kernel)
set_option maxRecDepth 65536 in
theorem w_c13 : (Jvm.Cond.code ({ cls := "com/example/lockstep/lockstep/engine/IndexList", name := "clear", desc := "()V" } : Jvm.MethodName) prog_26_method_7_code (1 : Nat) (Option.none : Option Jvm.ClassFile.FieldType)).before args0 about1 = true := code_word (m := ⟨12, 4⟩) (meth := k12m4) (c := k12c4) (by decide +kernel) rfl rfl rfl (by decide +kernel)
set_option maxRecDepth 65536 in
theorem w_c14 : (Jvm.Cond.code ({ cls := "com/example/lockstep/lockstep/engine/VertexSet", name := "add", desc := "(I)V" } : Jvm.MethodName) prog_49_method_2_code (2 : Nat) (Option.none : Option Jvm.ClassFile.FieldType)).before args0 about1 = true := code_word (m := ⟨10, 1⟩) (meth := k10m1) (c := k10c1) (by decide +kernel) rfl rfl rfl (by decide +kernel)
set_option maxRecDepth 65536 in
theorem w_c15 : (Jvm.Cond.code ({ cls := "com/example/lockstep/lockstep/engine/VertexSet", name := "hold", desc := "(I)V" } : Jvm.MethodName) prog_49_method_4_code (2 : Nat) (Option.none : Option Jvm.ClassFile.FieldType)).before args0 about1 = true := code_word (m := ⟨10, 2⟩) (meth := k10m2) (c := k10c2) (by decide +kernel) rfl rfl rfl (by decide +kernel)
set_option maxRecDepth 65536 in
theorem w_c16 : (Jvm.Cond.code ({ cls := "com/example/lockstep/lockstep/engine/IndexList", name := "add", desc := "(I)V" } : Jvm.MethodName) prog_26_method_2_code (2 : Nat) (Option.none : Option Jvm.ClassFile.FieldType)).before args0 about1 = true := code_word (m := ⟨12, 1⟩) (meth := k12m1) (c := k12c1) (by decide +kernel) rfl rfl rfl (by decide +kernel)
set_option maxRecDepth 65536 in
theorem w_c17 : (Jvm.Cond.code ({ cls := "com/example/lockstep/lockstep/engine/VertexSet", name := "sort", desc := "()V" } : Jvm.MethodName) prog_49_method_5_code (1 : Nat) (Option.none : Option Jvm.ClassFile.FieldType)).before args0 about1 = true := code_word (m := ⟨10, 3⟩) (meth := k10m3) (c := k10c3) (by decide +kernel) rfl rfl rfl (by decide +kernel)
set_option maxRecDepth 65536 in
theorem w_c18 : (Jvm.Cond.code ({ cls := "com/example/lockstep/lockstep/engine/VertexSet", name := "block", desc := "(I)I" } : Jvm.MethodName) prog_49_method_7_code (2 : Nat) (Option.some Jvm.ClassFile.FieldType.int)).before args0 about1 = true := code_word (m := ⟨10, 5⟩) (meth := k10m5) (c := k10c5) (by decide +kernel) rfl rfl rfl (by decide +kernel)
set_option maxRecDepth 65536 in
theorem w_c19 : (Jvm.Cond.code ({ cls := "com/example/lockstep/lockstep/engine/IndexList", name := "get", desc := "(I)I" } : Jvm.MethodName) prog_26_method_4_code (2 : Nat) (Option.some Jvm.ClassFile.FieldType.int)).before args0 about1 = true := code_word (m := ⟨12, 3⟩) (meth := k12m3) (c := k12c3) (by decide +kernel) rfl rfl rfl (by decide +kernel)
set_option maxRecDepth 65536 in
theorem w_c20 : (Jvm.Cond.code ({ cls := "com/example/lockstep/lockstep/engine/VertexSet", name := "next", desc := "(II)I" } : Jvm.MethodName) prog_49_method_8_code (7 : Nat) (Option.some Jvm.ClassFile.FieldType.int)).before args0 about1 = true := code_word (m := ⟨10, 6⟩) (meth := k10m6) (c := k10c6) (by decide +kernel) rfl rfl rfl (by decide +kernel)
set_option maxRecDepth 65536 in
theorem w_c21 : (Jvm.Cond.code ({ cls := "java/lang/Long", name := "numberOfTrailingZeros", desc := "(J)I" } : Jvm.MethodName) jdk_35_method_49_code (3 : Nat) (Option.some Jvm.ClassFile.FieldType.int)).before args0 about1 = true := code_word (m := ⟨14, 0⟩) (meth := k14m0) (c := k14c0) (by decide +kernel) rfl rfl rfl (by decide +kernel)
set_option maxRecDepth 65536 in
theorem w_c22 : (Jvm.Cond.code ({ cls := "java/lang/Integer", name := "numberOfTrailingZeros", desc := "(I)I" } : Jvm.MethodName) jdk_33_method_48_code (2 : Nat) (Option.some Jvm.ClassFile.FieldType.int)).before args0 about1 = true := code_word (m := ⟨15, 0⟩) (meth := k15m0) (c := k15c0) (by decide +kernel) rfl rfl rfl (by decide +kernel)
set_option maxRecDepth 65536 in
theorem w_c23 : (Jvm.Cond.code ({ cls := "com/example/lockstep/lockstep/engine/AddressedMessages", name := "first", desc := "(I)I" } : Jvm.MethodName) prog_18_method_3_code (2 : Nat) (Option.some Jvm.ClassFile.FieldType.int)).before args0 about1 = true := code_word (m := ⟨2, 2⟩) (meth := k2m2) (c := k2c2) (by decide +kernel) rfl rfl rfl (by decide +kernel)
set_option maxRecDepth 65536 in
theorem w_c24 : (Jvm.Cond.code ({ cls := "com/example/lockstep/lockstep/engine/AddressedMessages", name := "end", desc := "(I)I" } : Jvm.MethodName) prog_18_method_4_code (2 : Nat) (Option.some Jvm.ClassFile.FieldType.int)).before args0 about1 = true := code_word (m := ⟨2, 3⟩) (meth := k2m3) (c := k2c3) (by decide +kernel) rfl rfl rfl (by decide +kernel)
set_option maxRecDepth 65536 in
theorem w_c25 : (Jvm.Cond.code ({ cls := "com/example/lockstep/lockstep/engine/AddressedMessagesFirstPinLaw", name := "hit", desc := "(ZII)I" } : Jvm.MethodName) method_2_code (3 : Nat) (Option.some Jvm.ClassFile.FieldType.int)).before args0 about1 = true := code_word (m := ⟨1, 1⟩) (meth := k1m1) (c := k1c1) (by decide +kernel) rfl rfl rfl (by decide +kernel)
set_option maxRecDepth 65536 in
theorem w_c26 : (Jvm.Cond.code ({ cls := "com/example/lockstep/lockstep/engine/AddressedMessagesFirstPinLaw", name := "below", desc := "(ZII)I" } : Jvm.MethodName) method_3_code (3 : Nat) (Option.some Jvm.ClassFile.FieldType.int)).before args0 about1 = true := code_word (m := ⟨1, 2⟩) (meth := k1m2) (c := k1c2) (by decide +kernel) rfl rfl rfl (by decide +kernel)
set_option maxRecDepth 65536 in
theorem w_c27 : (Jvm.Cond.code ({ cls := "com/example/lockstep/lockstep/engine/AddressedMessagesFirstPinLaw", name := "check", desc := "(IIIII)Z" } : Jvm.MethodName) method_4_code (5 : Nat) (Option.some Jvm.ClassFile.FieldType.boolean)).before args0 about1 = true := code_word (m := ⟨1, 3⟩) (meth := k1m3) (c := k1c3) (by decide +kernel) rfl rfl rfl (by decide +kernel)
set_option maxRecDepth 65536 in
theorem w_c28 : (Jvm.Cond.code ({ cls := "com/example/lockstep/lockstep/engine/Engine", name := "blockEnd", desc := "(II)I" } : Jvm.MethodName) prog_22_method_12_code (2 : Nat) (Option.some Jvm.ClassFile.FieldType.int)).before args0 about1 = true := code_word (m := ⟨11, 1⟩) (meth := k11m1) (c := k11c1) (by decide +kernel) rfl rfl rfl (by decide +kernel)
set_option maxRecDepth 65536 in
theorem w_c29 : (Jvm.Cond.code ({ cls := "java/lang/Math", name := "min", desc := "(JJ)J" } : Jvm.MethodName) jdk_29_method_70_code (4 : Nat) (Option.some Jvm.ClassFile.FieldType.long)).before args0 about1 = true := code_word (m := ⟨16, 1⟩) (meth := k16m1) (c := k16c1) (by decide +kernel) rfl rfl rfl (by decide +kernel)
set_option maxRecDepth 65536 in
theorem w_c30 : (Jvm.Cond.code ({ cls := "java/util/Arrays", name := "fill", desc := "([IIII)V" } : Jvm.MethodName) jdk_65_method_104_code (5 : Nat) (Option.none : Option Jvm.ClassFile.FieldType)).before args0 about1 = true := code_word (m := ⟨17, 3⟩) (meth := k17m3) (c := k17c3) (by decide +kernel) rfl rfl rfl (by decide +kernel)
set_option maxRecDepth 65536 in
theorem w_c31 : (Jvm.Cond.code ({ cls := "java/util/Arrays", name := "rangeCheck", desc := "(III)V" } : Jvm.MethodName) jdk_65_method_30_code (3 : Nat) (Option.none : Option Jvm.ClassFile.FieldType)).before args0 about1 = true := code_word (m := ⟨17, 1⟩) (meth := k17m1) (c := k17c1) (by decide +kernel) rfl rfl rfl (by decide +kernel)
set_option maxRecDepth 65536 in
theorem w_c32 : (Jvm.Cond.code ({ cls := "java/util/Arrays", name := "fill", desc := "([JIIJ)V" } : Jvm.MethodName) jdk_65_method_102_code (6 : Nat) (Option.none : Option Jvm.ClassFile.FieldType)).before args0 about1 = true := code_word (m := ⟨17, 2⟩) (meth := k17m2) (c := k17c2) (by decide +kernel) rfl rfl rfl (by decide +kernel)
def codes1 : List Jvm.Cond := [Jvm.Cond.code x code maxLocals ret, Jvm.Cond.code ({ cls := "com/example/lockstep/lockstep/engine/AddressedMessages", name := "<init>", desc := "(IILjava/lang/String;)V" } : Jvm.MethodName) prog_18_method_1_code (4 : Nat) (Option.none : Option Jvm.ClassFile.FieldType), Jvm.Cond.code ({ cls := "java/lang/Object", name := "<init>", desc := "()V" } : Jvm.MethodName) object_method_1_code (1 : Nat) (Option.none : Option Jvm.ClassFile.FieldType), Jvm.Cond.code ({ cls := "com/example/lockstep/lockstep/engine/Engine", name := "blockCount", desc := "(I)I" } : Jvm.MethodName) prog_22_method_11_code (1 : Nat) (Option.some Jvm.ClassFile.FieldType.int), Jvm.Cond.code ({ cls := "com/example/lockstep/lockstep/engine/VertexSet", name := "<init>", desc := "(I)V" } : Jvm.MethodName) prog_49_method_1_code (2 : Nat) (Option.none : Option Jvm.ClassFile.FieldType), Jvm.Cond.code ({ cls := "com/example/lockstep/lockstep/engine/IndexList", name := "<init>", desc := "()V" } : Jvm.MethodName) prog_26_method_1_code (1 : Nat) (Option.none : Option Jvm.ClassFile.FieldType), Jvm.Cond.code ({ cls := "com/example/lockstep/lockstep/engine/AddressedMessages", name := "send", desc := "(IIIJ)V" } : Jvm.MethodName) prog_18_method_2_code (7 : Nat) (Option.none : Option Jvm.ClassFile.FieldType), Jvm.Cond.code ({ cls := "com/example/lockstep/lockstep/engine/AddressedMessages$Outbox", name := "<init>", desc := "(Lcom/example/lockstep/lockstep/engine/AddressedMessages;)V" } : Jvm.MethodName) prog_19_method_1_code (2 : Nat) (Option.none : Option Jvm.ClassFile.FieldType), Jvm.Cond.code ({ cls := "com/example/lockstep/lockstep/engine/AddressedMessages$Outbox", name := "add", desc := "(IIJ)V" } : Jvm.MethodName) prog_19_method_2_code (6 : Nat) (Option.none : Option Jvm.ClassFile.FieldType), Jvm.Cond.code ({ cls := "com/example/lockstep/lockstep/engine/AddressedMessages", name := "deliver", desc := "(I)Z" } : Jvm.MethodName) prog_18_method_9_code (11 : Nat) (Option.some Jvm.ClassFile.FieldType.boolean), Jvm.Cond.code ({ cls := "com/example/lockstep/lockstep/engine/VertexSet", name := "blockCount", desc := "()I" } : Jvm.MethodName) prog_49_method_6_code (1 : Nat) (Option.some Jvm.ClassFile.FieldType.int), Jvm.Cond.code ({ cls := "com/example/lockstep/lockstep/engine/IndexList", name := "size", desc := "()I" } : Jvm.MethodName) prog_26_method_3_code (1 : Nat) (Option.some Jvm.ClassFile.FieldType.int), Jvm.Cond.code ({ cls := "com/example/lockstep/lockstep/engine/VertexSet", name := "clear", desc := "()V" } : Jvm.MethodName) prog_49_method_9_code (3 : Nat) (Option.none : Option Jvm.ClassFile.FieldType), Jvm.Cond.code ({ cls := "com/example/lockstep/lockstep/engine/IndexList", name := "clear", desc := "()V" } : Jvm.MethodName) prog_26_method_7_code (1 : Nat) (Option.none : Option Jvm.ClassFile.FieldType), Jvm.Cond.code ({ cls := "com/example/lockstep/lockstep/engine/VertexSet", name := "add", desc := "(I)V" } : Jvm.MethodName) prog_49_method_2_code (2 : Nat) (Option.none : Option Jvm.ClassFile.FieldType), Jvm.Cond.code ({ cls := "com/example/lockstep/lockstep/engine/VertexSet", name := "hold", desc := "(I)V" } : Jvm.MethodName) prog_49_method_4_code (2 : Nat) (Option.none : Option Jvm.ClassFile.FieldType), Jvm.Cond.code ({ cls := "com/example/lockstep/lockstep/engine/IndexList", name := "add", desc := "(I)V" } : Jvm.MethodName) prog_26_method_2_code (2 : Nat) (Option.none : Option Jvm.ClassFile.FieldType), Jvm.Cond.code ({ cls := "com/example/lockstep/lockstep/engine/VertexSet", name := "sort", desc := "()V" } : Jvm.MethodName) prog_49_method_5_code (1 : Nat) (Option.none : Option Jvm.ClassFile.FieldType), Jvm.Cond.code ({ cls := "com/example/lockstep/lockstep/engine/VertexSet", name := "block", desc := "(I)I" } : Jvm.MethodName) prog_49_method_7_code (2 : Nat) (Option.some Jvm.ClassFile.FieldType.int), Jvm.Cond.code ({ cls := "com/example/lockstep/lockstep/engine/IndexList", name := "get", desc := "(I)I" } : Jvm.MethodName) prog_26_method_4_code (2 : Nat) (Option.some Jvm.ClassFile.FieldType.int), Jvm.Cond.code ({ cls := "com/example/lockstep/lockstep/engine/VertexSet", name := "next", desc := "(II)I" } : Jvm.MethodName) prog_49_method_8_code (7 : Nat) (Option.some Jvm.ClassFile.FieldType.int), Jvm.Cond.code ({ cls := "java/lang/Long", name := "numberOfTrailingZeros", desc := "(J)I" } : Jvm.MethodName) jdk_35_method_49_code (3 : Nat) (Option.some Jvm.ClassFile.FieldType.int), Jvm.Cond.code ({ cls := "java/lang/Integer", name := "numberOfTrailingZeros", desc := "(I)I" } : Jvm.MethodName) jdk_33_method_48_code (2 : Nat) (Option.some Jvm.ClassFile.FieldType.int), Jvm.Cond.code ({ cls := "com/example/lockstep/lockstep/engine/AddressedMessages", name := "first", desc := "(I)I" } : Jvm.MethodName) prog_18_method_3_code (2 : Nat) (Option.some Jvm.ClassFile.FieldType.int), Jvm.Cond.code ({ cls := "com/example/lockstep/lockstep/engine/AddressedMessages", name := "end", desc := "(I)I" } : Jvm.MethodName) prog_18_method_4_code (2 : Nat) (Option.some Jvm.ClassFile.FieldType.int), Jvm.Cond.code ({ cls := "com/example/lockstep/lockstep/engine/AddressedMessagesFirstPinLaw", name := "hit", desc := "(ZII)I" } : Jvm.MethodName) method_2_code (3 : Nat) (Option.some Jvm.ClassFile.FieldType.int), Jvm.Cond.code ({ cls := "com/example/lockstep/lockstep/engine/AddressedMessagesFirstPinLaw", name := "below", desc := "(ZII)I" } : Jvm.MethodName) method_3_code (3 : Nat) (Option.some Jvm.ClassFile.FieldType.int), Jvm.Cond.code ({ cls := "com/example/lockstep/lockstep/engine/AddressedMessagesFirstPinLaw", name := "check", desc := "(IIIII)Z" } : Jvm.MethodName) method_4_code (5 : Nat) (Option.some Jvm.ClassFile.FieldType.boolean), Jvm.Cond.code ({ cls := "com/example/lockstep/lockstep/engine/Engine", name := "blockEnd", desc := "(II)I" } : Jvm.MethodName) prog_22_method_12_code (2 : Nat) (Option.some Jvm.ClassFile.FieldType.int), Jvm.Cond.code ({ cls := "java/lang/Math", name := "min", desc := "(JJ)J" } : Jvm.MethodName) jdk_29_method_70_code (4 : Nat) (Option.some Jvm.ClassFile.FieldType.long), Jvm.Cond.code ({ cls := "java/util/Arrays", name := "fill", desc := "([IIII)V" } : Jvm.MethodName) jdk_65_method_104_code (5 : Nat) (Option.none : Option Jvm.ClassFile.FieldType), Jvm.Cond.code ({ cls := "java/util/Arrays", name := "rangeCheck", desc := "(III)V" } : Jvm.MethodName) jdk_65_method_30_code (3 : Nat) (Option.none : Option Jvm.ClassFile.FieldType), Jvm.Cond.code ({ cls := "java/util/Arrays", name := "fill", desc := "([JIIJ)V" } : Jvm.MethodName) jdk_65_method_102_code (6 : Nat) (Option.none : Option Jvm.ClassFile.FieldType)]
set_option maxRecDepth 65536 in
theorem codes_eq : words1.filter isCode = codes1 := rfl
theorem w_codes : ∀ c ∈ words1.filter isCode, c.before args0 about1 = true := by
  rw [codes_eq]
  intro c hc
  simp only [codes1, List.mem_cons, List.not_mem_nil, or_false] at hc
  rcases hc with rfl | rfl | rfl | rfl | rfl | rfl | rfl | rfl | rfl | rfl | rfl | rfl | rfl | rfl | rfl | rfl | rfl | rfl | rfl | rfl | rfl | rfl | rfl | rfl | rfl | rfl | rfl | rfl | rfl | rfl | rfl | rfl | rfl
  · exact w_c0
  · exact w_c1
  · exact w_c2
  · exact w_c3
  · exact w_c4
  · exact w_c5
  · exact w_c6
  · exact w_c7
  · exact w_c8
  · exact w_c9
  · exact w_c10
  · exact w_c11
  · exact w_c12
  · exact w_c13
  · exact w_c14
  · exact w_c15
  · exact w_c16
  · exact w_c17
  · exact w_c18
  · exact w_c19
  · exact w_c20
  · exact w_c21
  · exact w_c22
  · exact w_c23
  · exact w_c24
  · exact w_c25
  · exact w_c26
  · exact w_c27
  · exact w_c28
  · exact w_c29
  · exact w_c30
  · exact w_c31
  · exact w_c32
set_option maxRecDepth 65536 in
theorem w_t1 : (words1.take 24).all (fun c => isCode c || c.before args0 about1) = true := by decide +kernel
set_option maxRecDepth 65536 in
theorem w_t2 : ((words1.drop 24).take 24).all (fun c => isCode c || c.before args0 about1) = true := by decide +kernel
set_option maxRecDepth 65536 in
theorem w_t3 : (((words1.drop 24).drop 24).take 24).all (fun c => isCode c || c.before args0 about1) = true := by decide +kernel
set_option maxRecDepth 65536 in
theorem w_t4 : ((((words1.drop 24).drop 24).drop 24).take 24).all (fun c => isCode c || c.before args0 about1) = true := by decide +kernel
set_option maxRecDepth 65536 in
theorem w_t5 : (((((words1.drop 24).drop 24).drop 24).drop 24).take 24).all (fun c => isCode c || c.before args0 about1) = true := by decide +kernel
set_option maxRecDepth 65536 in
theorem w_t6 : ((((((words1.drop 24).drop 24).drop 24).drop 24).drop 24).take 24).all (fun c => isCode c || c.before args0 about1) = true := by decide +kernel
set_option maxRecDepth 65536 in
theorem w_t7 : (((((((words1.drop 24).drop 24).drop 24).drop 24).drop 24).drop 24).take 24).all (fun c => isCode c || c.before args0 about1) = true := by decide +kernel
set_option maxRecDepth 65536 in
theorem w_t8 : ((((((((words1.drop 24).drop 24).drop 24).drop 24).drop 24).drop 24).drop 24).take 24).all (fun c => isCode c || c.before args0 about1) = true := by decide +kernel
set_option maxRecDepth 65536 in
theorem w_t9 : (((((((((words1.drop 24).drop 24).drop 24).drop 24).drop 24).drop 24).drop 24).drop 24).take 24).all (fun c => isCode c || c.before args0 about1) = true := by decide +kernel
set_option maxRecDepth 65536 in
theorem w_t10 : (((((((((words1.drop 24).drop 24).drop 24).drop 24).drop 24).drop 24).drop 24).drop 24).drop 24).all (fun c => isCode c || c.before args0 about1) = true := by decide +kernel
theorem w_tables : (allAtoms (Jvm.Cond.code x code maxLocals ret :: tables_1)).before args0 about1 = true := by
  rw [allAtoms_all]
  show words1.all (fun c => c.before args0 about1) = true
  refine all_split ?_ w_codes
  rw [← List.take_append_drop 24 words1, List.all_append, w_t1, ← List.take_append_drop 24 (words1.drop 24), List.all_append, w_t2, ← List.take_append_drop 24 ((words1.drop 24).drop 24), List.all_append, w_t3, ← List.take_append_drop 24 (((words1.drop 24).drop 24).drop 24), List.all_append, w_t4, ← List.take_append_drop 24 ((((words1.drop 24).drop 24).drop 24).drop 24), List.all_append, w_t5, ← List.take_append_drop 24 (((((words1.drop 24).drop 24).drop 24).drop 24).drop 24), List.all_append, w_t6, ← List.take_append_drop 24 ((((((words1.drop 24).drop 24).drop 24).drop 24).drop 24).drop 24), List.all_append, w_t7, ← List.take_append_drop 24 (((((((words1.drop 24).drop 24).drop 24).drop 24).drop 24).drop 24).drop 24), List.all_append, w_t8, ← List.take_append_drop 24 ((((((((words1.drop 24).drop 24).drop 24).drop 24).drop 24).drop 24).drop 24).drop 24), List.all_append, w_t9, w_t10]
  rfl
set_option maxRecDepth 65536 in
theorem w_case : (Jvm.Cond.and given_1 narrow_1).before args0 about1 = true := by decide +kernel
theorem w_applies : (headSpec (Jvm.Cond.code x code maxLocals ret :: tables_1) room_1).applies x e0.platform about1 = true :=
  (Spec.applies_iff w_frames).mpr ⟨w_running, w_runnable, w_alone, w_named, w_hears, w_ripe, w_room, w_tables⟩
theorem atStart : AtStart classFile x code maxLocals ret World_1 tables_1 room_1 Calls_1 rest_1 Pre_1 launch0 p0 e0 about1 theMethod args0 below0 :=
  ⟨lists_1, trivial, launch0.admits_env _ _ _, launch0.least_env, fairChoices_fair.cas, fairChoices_fair.clock, w_frames, w_args, w_heap, w_applies, trivial, trivial, w_case⟩
end start1
theorem witness_1 : WitnessClaimed_1 := ⟨start1.p0, start1.e0, start1.about1, start1.theMethod, start1.args0, start1.below0, start1.atStart⟩
end Jvm.Pilot.@@N@@
