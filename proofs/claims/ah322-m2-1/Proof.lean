import JvmDerived
import JvmDerived.Pilot.@@N@@Statement
import JvmDerived.Pilot.@@N@@Code
set_option linter.unusedVariables false
set_option linter.unusedSimpArgs false
namespace Jvm.Pilot.@@N@@
open Jvm Jvm.ClassFile Sem Op Lib Jvm.Free Jvm.Stand Jvm.LawKit Jvm.RoadKit Bundle Jvm.Pilot.@@N@@.Jvm.D
/-! own layer: the run from a state ends in a return of which Q holds; one step leads from there to there -/
def own_ishl (x y : Int32) : Int32 := x <<< (y &&& 31)
def own_ishr (x y : Int32) : Int32 := x >>> (y &&& 31)
def own_iushr (x y : Int32) : Int32 := (x.toUInt32 >>> (y &&& 31).toUInt32).toInt32
def own_lshl (x : Int64) (y : Int32) : Int64 := x <<< (y &&& 0x3f).toInt64
def own_lshr (x : Int64) (y : Int32) : Int64 := x >>> (y &&& 0x3f).toInt64
def own_lushr (x : Int64) (y : Int32) : Int64 := (x.toUInt64 >>> (y &&& 0x3f).toInt64.toUInt64).toInt64
def own_i2b (x : Int32) : Int32 := x.toInt8.toInt32
def own_i2c (x : Int32) : Int32 := x.toUInt32.toUInt16.toUInt32.toInt32
def own_Fin (tb : Tables) (e : Env) (below : List Frame) (s : State) (Q : Option Value → Heap → List Loc → Prop) (k n : Nat) (t : State) : Prop :=
  ∃ s₂ o, Steps tb e below t s₂ ∧ s₂.status = .running ∧ Ended s₂ below o ∧ ∃ v L, o = .returned v ∧ Q v s₂.heap L ∧ FrameEnd s o s₂ L k n
theorem own_go {tb : Tables} {e : Env} {below : List Frame} {s : State} {Q : Option Value → Heap → List Loc → Prop} {k n : Nat} {t t' : State}
    (h : ∀ target, Steps tb e below t' target → Steps tb e below t target) (q : own_Fin tb e below s Q k n t') : own_Fin tb e below s Q k n t := by
  obtain ⟨s2, o, h1, h2⟩ := q
  exact ⟨s2, o, h _ h1, h2⟩
def own_QP (r : Option Value) (h0 : Heap) (n0 : Nat) (v : Option Value) (h : Heap) (L : List Loc) : Prop := v = r ∧ Fr n0 L ∧ h = h0
section OwnA
variable {p : Program} {l : Launch} {e : Env} {R : Room} {s : State} {m : MethodId} {args : Array Value} {below : List Frame} {meth : Method} {c : Code} {T : State} {locs : List Loc} {cells slots : Nat}
theorem own_mono (X : Stand p l e R s m args below meth c T locs cells slots) {k n : Nat} (hk : cells ≤ k) (hn : slots ≤ n) : Stand p l e R s m args below meth c T locs k n :=
  { X with same := X.same.mono hk hn }
theorem own_ret (X : Stand p l e R s m args below meth c T locs cells slots) (hx : p.tables.exec = Jvm.exec) (hlk : meth.locks = false) {pc : Nat} {Ls : Array Slot} {w : Value} {t : FieldType} {i : Instr} {rest : List Value} (hret : meth.sig.returnType = some t) (hn : narrow t w = w)
    (hi : (i = .ireturn ∧ (t = .int ∨ t = .boolean ∨ t = .byte ∨ t = .char ∨ t = .short) ∧ ∃ z, w = .int z) ∨ (i = .lreturn ∧ t = .long ∧ ∃ z, w = .long z) ∨ (i = .dreturn ∧ t = .double ∧ ∃ z, w = .double z) ∨ (i = .freturn ∧ t = .float ∧ ∃ z, w = .float z) ∨ (i = .areturn ∧ t.isReference = true ∧ w.isRef = true))
    (hd : decode c.code pc = .ok (i, 1)) {Q : Option Value → Heap → List Loc → Prop} {k n : Nat} (hk : cells ≤ k) (hs : slots ≤ n) (hQ : Q (some w) T.heap locs) :
    own_Fin p.tables e below s Q k n (T.setTop (mkF m pc Ls (w :: rest))) := by
  obtain ⟨fs, hr, hrun, hended, hW, hsame⟩ := X.leave (v := some w) (fun h => by rw [hret] at h; cases h) hlk
  exact ⟨_, _, retOut X hx hret hn hi hd hr, hrun, hended, _, _, rfl, hQ, ⟨_, rfl⟩, hW, hsame.mono hk hs⟩
theorem own_retV (X : Stand p l e R s m args below meth c T locs cells slots) (hx : p.tables.exec = Jvm.exec) (hlk : meth.locks = false) {pc : Nat} {Ls : Array Slot} (hret : meth.sig.returnType = none)
    (hd : decode c.code pc = .ok (.return_, 1)) {Q : Option Value → Heap → List Loc → Prop} {k n : Nat} (hk : cells ≤ k) (hs : slots ≤ n) (hQ : Q none T.heap locs) :
    own_Fin p.tables e below s Q k n (T.setTop (mkF m pc Ls [])) := by
  obtain ⟨fs, hr, hrun, hended, hW, hsame⟩ := X.leave (v := none) (fun _ => rfl) hlk
  exact ⟨_, _, X.returnOut hx hret hd hr, hrun, hended, _, _, rfl, hQ, ⟨_, rfl⟩, hW, hsame.mono hk hs⟩
end OwnA
theorem own_irem {tb : Tables} [Ours tb] {e : Env} {below : List Frame} {T target : State} {m : MethodId} {c : Code} {g : JFrame} (h : At T m c below) (hx : tb.exec = Jvm.exec) (hg : g.method = m) {x y : Int32} {rest : List Value} (hd : decode c.code g.pc = .ok (.irem, 1)) (hs : g.stack = .int y :: .int x :: rest) (hy : y ≠ 0)
    (hr : Steps tb e below (T.setTop { g with pc := g.pc + 1, stack := .int (x % y) :: rest }) target) : Steps tb e below (T.setTop g) target :=
  XS.irem h hx hg hd hs hy (by rw [irem_eq_mod x y]; exact hr)
theorem own_lrem {tb : Tables} [Ours tb] {e : Env} {below : List Frame} {T target : State} {m : MethodId} {c : Code} {g : JFrame} (h : At T m c below) (hx : tb.exec = Jvm.exec) (hg : g.method = m) {x y : Int64} {rest : List Value} (hd : decode c.code g.pc = .ok (.lrem, 1)) (hs : g.stack = .long y :: .long x :: rest) (hy : y ≠ 0)
    (hr : Steps tb e below (T.setTop { g with pc := g.pc + 1, stack := .long (x % y) :: rest }) target) : Steps tb e below (T.setTop g) target :=
  XS.lrem h hx hg hd hs hy (by rw [lrem_mod x y]; exact hr)
/-! arrays by a function of the place -/
def own_set {α : Type} (f : Nat → α) (j : Int32) (v : α) : Nat → α := fun i => if i = j.toNatClampNeg then v else f i
def own_Arf (Z : State) (h : Heap) (a : Addr) (ty : FieldType) (n : Int32) (f : Nat → Value) : Prop :=
  ∃ c : Cell, Arr Z h a c ty ∧ c.slots.size = n.toNatClampNeg ∧ ¬ n < 0 ∧ ∀ i, i < n.toNatClampNeg → c.slots[i]? = some (f i)
section OwnB
variable {Z : State} {h h' : Heap} {a b : Addr} {ty : FieldType} {n j : Int32} {f : Nat → Value} {ws : List Addr} {v : Value} {sl : Nat}
theorem own_Arf.lt (F : own_Arf Z h a ty n f) : a < h.size := by obtain ⟨c, A, -⟩ := F; exact A.lt
theorem own_Arf.ext (F : own_Arf Z h a ty n f) (E : Ext h h') : own_Arf Z h' a ty n f := by obtain ⟨c, A, r⟩ := F; exact ⟨c, A.ext E, r⟩
theorem own_Arf.other (F : own_Arf Z h b ty n f) (W : Wr h h' a sl v) (q : b ≠ a) : own_Arf Z h' b ty n f := by obtain ⟨c, A, r⟩ := F; exact ⟨c, A.other W q, r⟩
theorem own_Arf.keep (F : own_Arf Z h a ty n f) (K : Keep h h' ws) (q : a ∉ ws) : own_Arf Z h' a ty n f := by obtain ⟨c, A, r⟩ := F; exact ⟨c, ⟨K.2.1 a c A.1 q, A.2⟩, r⟩
theorem own_Arf.new {k : ClassId} (A : Arr Z h a (newA k ty n) ty) (q : ¬ n < 0) : own_Arf Z h a ty n (fun _ => defaultValue ty) :=
  ⟨_, A, sz_new _ _ _, q, fun i hi => by simp [newA, hi]⟩
theorem own_Arf.wr (F : own_Arf Z h a ty n f) (W : Wr h h' a j.toNatClampNeg v) : own_Arf Z h' a ty n (fun i => if i = j.toNatClampNeg then v else f i) := by
  obtain ⟨c, A, S, q, H⟩ := F
  refine ⟨_, A.same W, by rw [sz_set]; exact S, q, fun i hi => ?_⟩
  by_cases u : i = j.toNatClampNeg
  · subst u; simp [Cell.setSlot, S, hi]
  · simp only [if_neg u, Cell.setSlot]; rw [Array.getElem?_setIfInBounds_ne (Ne.symm u)]; exact H i hi
theorem own_Arf.fn {g : Nat → Value} (F : own_Arf Z h a ty n f) (q : ∀ i, i < n.toNatClampNeg → f i = g i) : own_Arf Z h a ty n g := by
  obtain ⟨c, A, S, q', H⟩ := F
  exact ⟨c, A, S, q', fun i hi => by rw [← q i hi]; exact H i hi⟩
variable {p : Program} {l : Launch} {e : Env} {R : Room} {s : State} {m : MethodId} {args : Array Value} {below : List Frame} {meth : Method} {c : Code} {T : State} {locs : List Loc} {cells slots : Nat} {g : JFrame} {rest : List Value}
theorem own_alen (X : Stand p l e R s m args below meth c T locs cells slots) (hx : p.tables.exec = Jvm.exec) (hZ : Z.Warmed39 s.vm) (eT : T.heap = h) (F : own_Arf Z h a ty n f) (hg : g.method = m) (hs : g.stack = .ref a :: rest) (hd : decode c.code g.pc = .ok (.arraylength, 1)) (target : State)
    (hr : Steps p.tables e below (T.setTop { g with pc := g.pc + 1, stack := .int n :: rest }) target) : Steps p.tables e below (T.setTop g) target := by
  obtain ⟨cl, A, S, q, H⟩ := F
  refine X.arraylength hx (by rw [eT]; exact A.1) (State.isArrayOf_alike hZ.alike A.2.1) hg hs hd _ ?_
  rw [len_of S q]; exact hr
theorem own_iaload (X : Stand p l e R s m args below meth c T locs cells slots) (hx : p.tables.exec = Jvm.exec) (hZ : Z.Warmed39 s.vm) (eT : T.heap = h) (F : own_Arf Z h a .int n f) (hj : ¬ j < 0 ∧ j < n) {x : Int32} (hv : f j.toNatClampNeg = .int x) (hg : g.method = m) (hs : g.stack = .int j :: .ref a :: rest) (hd : decode c.code g.pc = .ok (.iaload, 1)) (target : State)
    (hr : Steps p.tables e below (T.setTop { g with pc := g.pc + 1, stack := .int x :: rest }) target) : Steps p.tables e below (T.setTop g) target := by
  obtain ⟨cl, A, S, q, H⟩ := F
  have hin := inb_of S hj
  exact X.iaload hx (by rw [eT]; exact A.1) (State.isArrayOf_alike hZ.alike A.2.1) A.2.2 hin (by rw [H _ (by rw [← S]; omega), hv]) hg hs hd _ hr
theorem own_baload (X : Stand p l e R s m args below meth c T locs cells slots) (hx : p.tables.exec = Jvm.exec) (hZ : Z.Warmed39 s.vm) (eT : T.heap = h) (F : own_Arf Z h a .byte n f) (hj : ¬ j < 0 ∧ j < n) {x : Int32} (hv : f j.toNatClampNeg = .int x) (hg : g.method = m) (hs : g.stack = .int j :: .ref a :: rest) (hd : decode c.code g.pc = .ok (.baload, 1)) (target : State)
    (hr : Steps p.tables e below (T.setTop { g with pc := g.pc + 1, stack := .int x :: rest }) target) : Steps p.tables e below (T.setTop g) target := by
  obtain ⟨cl, A, S, q, H⟩ := F
  have hin := inb_of S hj
  exact X.baloadBytes hx (by rw [eT]; exact A.1) (State.isArrayOf_alike hZ.alike A.2.1) A.2.2 hin (by rw [H _ (by rw [← S]; omega), hv]) hg hs hd _ hr
theorem own_laload (X : Stand p l e R s m args below meth c T locs cells slots) (hx : p.tables.exec = Jvm.exec) (hZ : Z.Warmed39 s.vm) (eT : T.heap = h) (F : own_Arf Z h a .long n f) (hj : ¬ j < 0 ∧ j < n) {x : Int64} (hv : f j.toNatClampNeg = .long x) (hg : g.method = m) (hs : g.stack = .int j :: .ref a :: rest) (hd : decode c.code g.pc = .ok (.laload, 1)) (target : State)
    (hr : Steps p.tables e below (T.setTop { g with pc := g.pc + 1, stack := .long x :: rest }) target) : Steps p.tables e below (T.setTop g) target := by
  obtain ⟨cl, A, S, q, H⟩ := F
  have hin := inb_of S hj
  exact X.laload hx (by rw [eT]; exact A.1) (State.isArrayOf_alike hZ.alike A.2.1) A.2.2 hin (by rw [H _ (by rw [← S]; omega), hv]) hg hs hd _ hr
theorem own_stI (X : Stand p l e R s m args below meth c T locs cells slots) (hx : p.tables.exec = Jvm.exec) (hZ : Z.Warmed39 s.vm) (eT : T.heap = h) {q : Nat → Int32} (F : own_Arf Z h a .int n (fun i => .int (q i))) (hj : ¬ j < 0 ∧ j < n) {x : Int32} (hg : g.method = m) (hs : g.stack = .int x :: .int j :: .ref a :: rest) (hd : decode c.code g.pc = .ok (.iastore, 1)) :
    ∃ T' h', Stand p l e R s m args below meth c T' (locs ++ [⟨a, j.toNatClampNeg⟩]) cells slots ∧ T'.heap = h' ∧ Wr h h' a j.toNatClampNeg (.int x) ∧ own_Arf Z h' a .int n (fun i => .int (own_set q j x i)) ∧ ∀ target, Steps p.tables e below (T'.setTop { g with pc := g.pc + 1, stack := rest }) target → Steps p.tables e below (T.setTop g) target := by
  obtain ⟨cl, A, S, q1, H⟩ := F
  obtain ⟨T', h', X', e', W, st⟩ := stI X hx hZ eT A (inb_of S hj) hg hs hd
  refine ⟨T', h', X', e', W, (own_Arf.wr ⟨cl, A, S, q1, H⟩ W).fn fun i hi => ?_, st⟩
  simp only [own_set]; split <;> rfl
theorem own_stB (X : Stand p l e R s m args below meth c T locs cells slots) (hx : p.tables.exec = Jvm.exec) (hZ : Z.Warmed39 s.vm) (eT : T.heap = h) {q : Nat → Int32} (F : own_Arf Z h a .byte n (fun i => .int (q i))) (hj : ¬ j < 0 ∧ j < n) {x : Int32} (hg : g.method = m) (hs : g.stack = .int x :: .int j :: .ref a :: rest) (hd : decode c.code g.pc = .ok (.bastore, 1)) :
    ∃ T' h', Stand p l e R s m args below meth c T' (locs ++ [⟨a, j.toNatClampNeg⟩]) cells slots ∧ T'.heap = h' ∧ Wr h h' a j.toNatClampNeg (.int (own_i2b x)) ∧ own_Arf Z h' a .byte n (fun i => .int (own_set q j (own_i2b x) i)) ∧ ∀ target, Steps p.tables e below (T'.setTop { g with pc := g.pc + 1, stack := rest }) target → Steps p.tables e below (T.setTop g) target := by
  obtain ⟨cl, A, S, q1, H⟩ := F
  obtain ⟨T', h', X', e', W, st⟩ := stB X hx hZ eT A (inb_of S hj) hg hs hd
  refine ⟨T', h', X', e', W, (own_Arf.wr ⟨cl, A, S, q1, H⟩ W).fn fun i hi => ?_, st⟩
  simp only [own_set]; split <;> rfl
theorem own_stJ (X : Stand p l e R s m args below meth c T locs cells slots) (hx : p.tables.exec = Jvm.exec) (hZ : Z.Warmed39 s.vm) (eT : T.heap = h) {q : Nat → Int64} (F : own_Arf Z h a .long n (fun i => .long (q i))) (hj : ¬ j < 0 ∧ j < n) {x : Int64} (hg : g.method = m) (hs : g.stack = .long x :: .int j :: .ref a :: rest) (hd : decode c.code g.pc = .ok (.lastore, 1)) :
    ∃ T' h', Stand p l e R s m args below meth c T' (locs ++ [⟨a, j.toNatClampNeg⟩]) cells slots ∧ T'.heap = h' ∧ Wr h h' a j.toNatClampNeg (.long x) ∧ own_Arf Z h' a .long n (fun i => .long (own_set q j x i)) ∧ ∀ target, Steps p.tables e below (T'.setTop { g with pc := g.pc + 1, stack := rest }) target → Steps p.tables e below (T.setTop g) target := by
  obtain ⟨cl, A, S, q1, H⟩ := F
  obtain ⟨T', h', X', e', W, st⟩ := stJ X hx hZ eT A (inb_of S hj) hg hs hd
  refine ⟨T', h', X', e', W, (own_Arf.wr ⟨cl, A, S, q1, H⟩ W).fn fun i hi => ?_, st⟩
  simp only [own_set]; split <;> rfl
end OwnB
def own_QL (r : Option Value) (n0 : Nat) (v : Option Value) (h : Heap) (L : List Loc) : Prop := v = r ∧ Fr n0 L ∧ True
theorem own_ne_arf {Z : State} {h : Heap} {a b : Addr} {C : String} {ty : FieldType} {n : Int32} {f : Nat → Value} {a0 : Array Value} {k : Nat} (F : Exa Z h a C) (wi : (Cond.instantiable C k).before a0 Z = true) (G : own_Arf Z h b ty n f) : a ≠ b := by
  obtain ⟨c, A, -⟩ := G; exact ne_arr F wi A
def own_Two (a b : Slot) : Prop := (a = .unset ∧ b = .unset) ∨ ∃ x : Int64, a = .val (.long x) ∧ b = .second
theorem own_selpriv {s : State} {args args' : Array Value} {y z : MethodName} (hz : z.cls = y.cls) (w : (Cond.selects z.cls z z).before args' s = true) (hp : s.PrivateAt y) (hi : (Cond.instanceMethod y).before args s = true) (hy : y.cls ≠ "java/lang/invoke/MethodHandle" ∧ y.cls ≠ "java/lang/invoke/VarHandle") : (Cond.selects y.cls y y).before args s = true := by
  obtain ⟨c, r, m, h1, h2, h3, h4, k, hk, hki⟩ := Cond.selects_spec w
  have hm := findClass_of_methodNamed h3
  rw [hz] at hm
  exact selects_self_of_private hm hk hki hp hi hy
/-! own layer, wide: the walk may intern; s0 is the true start, s the base at hand -/
def own_FinW (Z : State) (EL : List (String × Nat)) (tb : Tables) (e : Env) (below : List Frame) (s0 : State) (Q : Option Value → Heap → List Loc → Prop) (k n : Nat) (t : State) : Prop :=
  ∃ s₂ o, Steps tb e below t s₂ ∧ s₂.status = .running ∧ Ended s₂ below o ∧ ∃ v L, o = .returned v ∧ Q v s₂.heap L ∧ CHr Z EL s0.vm s0.heap s₂.vm s₂.heap ∧ ReturnedEndW s0 o s₂ L k n
theorem own_goW {Z : State} {EL : List (String × Nat)} {tb : Tables} {e : Env} {below : List Frame} {s : State} {Q : Option Value → Heap → List Loc → Prop} {k n : Nat} {t t' : State}
    (h : ∀ target, Steps tb e below t' target → Steps tb e below t target) (q : own_FinW Z EL tb e below s Q k n t') : own_FinW Z EL tb e below s Q k n t := by
  obtain ⟨s2, o, h1, h2⟩ := q
  exact ⟨s2, o, h _ h1, h2⟩
def own_Wb (s0 s : State) (k : Nat) : Prop := ∃ vm, s = s0.setVm vm ∧ s0.Since vm k
theorem own_Wb.start (s0 : State) : own_Wb s0 s0 0 := ⟨s0.vm, rfl, (State.WarmedH.refl s0).since 0⟩
theorem own_Wb.next {s0 s : State} {vm : Vm} {k k1 n : Nat} (hS : own_Wb s0 s k) (hk : k ≤ k1) (h2 : s.Since vm n) (g : k1 ≤ n) : own_Wb s0 (s.setVm vm) n := by
  obtain ⟨vm0, rfl, h⟩ := hS
  exact ⟨vm, rfl, h.trans h2 (Nat.le_trans hk g)⟩
theorem own_chr0 {Z : State} {vm vm' : Vm} {h h' : Heap} (q : h.size ≤ h'.size) : CHr Z [] vm h vm' h' := by
  refine ⟨fun p hp => ?_, q, fun y B => ?_⟩
  · cases hp
  · obtain ⟨p, hp, -⟩ := B; cases hp
section OwnW
variable {p : Program} {l : Launch} {e : Env} {R : Room} {s : State} {m : MethodId} {args : Array Value} {below : List Frame} {meth : Method} {c : Code} {T : State} {locs : List Loc} {cells slots : Nat} {Z s0 : State} {a0 : Array Value} {h : Heap} {EL : List (String × Nat)}
theorem own_retW (X : Stand p l e R s m args below meth c T locs cells slots) (hx : p.tables.exec = Jvm.exec) (hlk : meth.locks = false) {k0 : Nat} (hS : own_Wb s0 s k0) (hk0 : k0 ≤ T.heap.size) {pc : Nat} {Ls : Array Slot} {w : Value} {t : FieldType} {i : Instr} {rest : List Value} (hret : meth.sig.returnType = some t) (hn : narrow t w = w)
    (hi : (i = .ireturn ∧ (t = .int ∨ t = .boolean ∨ t = .byte ∨ t = .char ∨ t = .short) ∧ ∃ z, w = .int z) ∨ (i = .lreturn ∧ t = .long ∧ ∃ z, w = .long z) ∨ (i = .dreturn ∧ t = .double ∧ ∃ z, w = .double z) ∨ (i = .freturn ∧ t = .float ∧ ∃ z, w = .float z) ∨ (i = .areturn ∧ t.isReference = true ∧ w.isRef = true))
    (hd : decode c.code pc = .ok (i, 1)) {Q : Option Value → Heap → List Loc → Prop} {k n : Nat} (hk : cells ≤ k) (hs : slots ≤ n) (hC : CHr Z EL s0.vm s0.heap T.vm T.heap) (hQ : Q (some w) T.heap locs) :
    own_FinW Z EL p.tables e below s0 Q k n (T.setTop (mkF m pc Ls (w :: rest))) := by
  obtain ⟨vm, rfl, hS⟩ := hS
  obtain ⟨fs, hr, hrun, hended, h1, h2, h3, h4⟩ := X.leaveW hS hk0 (v := some w) (fun h => by rw [hret] at h; cases h) hlk
  exact ⟨_, _, retOut X hx hret hn hi hd hr, hrun, hended, _, _, rfl, hQ, hC, h1, h2, h3, h4.mono hk hs⟩
/-- 'ldc' of a String constant whose text isn't looked at -/
theorem own_ldcO (X : Stand p l e R s m args below meth c T locs cells slots) (hx : p.tables.exec = Jvm.exec) (hZ : Z.Warmed39 s.vm) {own text : String} {index : Nat} (hown : s.vm.findClass own = some m.cls) (w : (Cond.stringLink own index text).before a0 Z = true) (wS : ∀ a ∈ Bundle.stringAtoms, a.before a0 Z = true)
    (eT : T.heap = h) {k0 : Nat} (hS : own_Wb s0 s k0) (hk : k0 ≤ h.size) {g : JFrame} (hg : g.method = m) (hd : decode c.code g.pc = .ok (.ldc index, 2)) {n : Nat} (hn : 4 * text.toList.length ≤ n) (hbig : n ≤ 536870912) (hc : cells + 2 ≤ R.cells) (hl : slots + (n + 4) ≤ R.slots) :
    ∃ (a : Addr) (T' : State) (h' : Heap) (k1 : Nat) (s' : State), Stand p l e R s' m args below meth c T' locs (cells + 2) (slots + (n + 4)) ∧ T'.heap = h' ∧ Ext h h' ∧ own_Wb s0 s' k1 ∧ k1 ≤ h'.size ∧ Z.Warmed39 s'.vm ∧ s'.vm.findClass own = some m.cls ∧
      ∀ target, Steps p.tables e below (T'.setTop { g with pc := g.pc + 2, stack := .ref a :: g.stack }) target → Steps p.tables e below (T.setTop g) target := by
  obtain ⟨vm, rfl, hS⟩ := hS
  obtain ⟨a, T', h', k1, r1, r2, r3, r4, r5, r6, r7, -, -, r8⟩ := ldcOH (EL := []) X hx hZ hown w wS eT hS hk EW.nil (fun p hp => by cases hp) hg hd hn hbig hc hl
  exact ⟨a, T', h', k1, _, r1, r2, r3, ⟨_, rfl, r4⟩, r5, r6, r7, r8⟩
theorem own_Arf.arv {b : Addr} {k : ClassId} {z : Int32} {vs : List Value} {f : Nat → Value} (A : Arv Z h b k .byte z vs (.int 0)) (hf : ∀ i, i < z.toNatClampNeg → vs.getD i (.int 0) = f i) : own_Arf Z h b .byte z f := by
  obtain ⟨cl, A, -, S, q, H, -⟩ := A
  exact ⟨cl, A, S, q, fun i hi => by rw [← hf i hi]; exact H i (by rw [S]; exact hi)⟩
/-- 'ldc' of a String constant that is among EL: its text is known -/
theorem own_ldcC (X : Stand p l e R s m args below meth c T locs cells slots) (hx : p.tables.exec = Jvm.exec) (hZ : Z.Warmed39 s.vm) {own text : String} {index : Nat} (hown : s.vm.findClass own = some m.cls) (w : (Cond.stringLink own index text).before a0 Z = true) (wS : ∀ a ∈ Bundle.stringAtoms, a.before a0 Z = true)
    (eT : T.heap = h) {k0 : Nat} (hS : own_Wb s0 s k0) (hk : k0 ≤ h.size) (hEL : EW Z a0 EL) (hmem : (own, index) ∈ EL) (H : CHr Z EL s0.vm s0.heap s.vm h)
    {vs : List Value} {z : Int32} (ht : (∀ c ∈ text.toList, c.toNat < 256) ∧ text.toList.map (fun c => Value.int (Jvm.Lit.byteI c.toNat.toUInt16)) = vs) (hz : ¬ z < 0) (hl : z.toNatClampNeg = vs.length) {f : Nat → Value} (hf : ∀ i, i < z.toNatClampNeg → vs.getD i (.int 0) = f i)
    {g : JFrame} (hg : g.method = m) (hd : decode c.code g.pc = .ok (.ldc index, 2)) {n : Nat} (hn : 4 * text.toList.length ≤ n) (hbig : n ≤ 536870912) (hc : cells + 2 ≤ R.cells) (hl' : slots + (n + 4) ≤ R.slots) :
    ∃ (a : Addr) (T' : State) (h' : Heap) (k1 : Nat) (s' : State) (b : Addr), Stand p l e R s' m args below meth c T' locs (cells + 2) (slots + (n + 4)) ∧ T'.heap = h' ∧ Ext h h' ∧ own_Wb s0 s' k1 ∧ k1 ≤ h'.size ∧ Z.Warmed39 s'.vm ∧ s'.vm.findClass own = some m.cls ∧ CHr Z EL s0.vm s0.heap s'.vm h' ∧
      Exa Z h' a "java/lang/String" ∧ Fld Z h' a "java/lang/String" "coder" "B" (.int 0) ∧ Fld Z h' a "java/lang/String" "value" "[B" (.ref b) ∧ own_Arf Z h' b .byte z f ∧
      ∀ target, Steps p.tables e below (T'.setTop { g with pc := g.pc + 2, stack := .ref a :: g.stack }) target → Steps p.tables e below (T.setTop g) target := by
  obtain ⟨vm, rfl, hS⟩ := hS
  obtain ⟨a, T', h', k1, b, k, r1, r2, r3, r4, r5, r6, r7, r8, r9, r10, r11, -, -, r12, -, -, r13⟩ := ldcCH X hx hZ hown w wS eT hS hk hEL hmem H.1 ht hz hl hg hd hn hbig hc hl'
  exact ⟨a, T', h', k1, _, b, r1, r2, r3, ⟨_, rfl, r4⟩, r5, r6, r7, H.trans r12, r8, r9, r10, own_Arf.arv r11 hf, r13⟩
theorem own_chT (X : Stand p l e R s m args below meth c T locs cells slots) (hZ : Z.Warmed39 s.vm) {k0 : Nat} (hS : own_Wb s0 s k0) (hEL : EW Z a0 EL) (eT : T.heap = h) (H : CHr Z EL s0.vm s0.heap s.vm h) : CHr Z EL s0.vm s0.heap T.vm T.heap := by
  obtain ⟨vm, rfl, hS⟩ := hS
  subst eT
  exact H.trans (CHv.at X hZ hEL H.1)
theorem own_chO (X : Stand p l e R s m args below meth c T locs cells slots) {k0 : Nat} (hS : own_Wb s0 s k0) : CHr Z [] s0.vm s0.heap T.vm T.heap := by
  obtain ⟨vm, rfl, hS⟩ := hS
  exact own_chr0 X.same.2.1
end OwnW
theorem own_strne {Z : State} {h : Heap} {a a' b b' : Addr} {n n' : Int32} {f f' : Nat → Value} (F : Fld Z h a "java/lang/String" "value" "[B" (.ref b)) (F' : Fld Z h a' "java/lang/String" "value" "[B" (.ref b')) (A : own_Arf Z h b .byte n f) (A' : own_Arf Z h b' .byte n' f') (hn : n.toNatClampNeg ≠ n'.toNatClampNeg) : a ≠ a' := by
  refine F.ne F' fun q => ?_
  have q : b = b' := by injection q
  subst q
  obtain ⟨c1, A1, S1, -⟩ := A
  obtain ⟨c2, A2, S2, -⟩ := A'
  cases A1.1.symm.trans A2.1
  exact hn (S1.symm.trans S2)
theorem own_stak {Z : State} {h h' : Heap} {C n d : String} {v : Value} (F : Sta Z h C n d v) (K : Keep h h' []) : Sta Z h' C n d v := by
  obtain ⟨cf, i, k, f, st, cell, h1, h2, h3, h4, h5, r⟩ := F
  exact ⟨cf, i, k, f, st, cell, h1, h2, h3, h4, K.2.1 _ _ h5 (by simp), r⟩

theorem own_wS {Z : State} {a0 : Array Value} (hw : ∀ d ∈ tables_1, d.before a0 Z = true) : ∀ a ∈ Bundle.stringAtoms, a.before a0 Z = true := by
  intro a ha
  simp only [Bundle.stringAtoms, Bundle.sN, List.mem_cons, List.not_mem_nil, or_false] at ha
  rcases ha with rfl | rfl | rfl | rfl | rfl | rfl | rfl
  · first | exact (hw _ (List.mem_of_getElem? (i := 15) rfl)) | exact (hw _ (List.mem_of_getElem? (i := 16) rfl)) | exact (hw _ (List.mem_of_getElem? (i := 17) rfl)) | exact (hw _ (List.mem_of_getElem? (i := 18) rfl)) | exact (hw _ (List.mem_of_getElem? (i := 19) rfl)) | exact (hw _ (List.mem_of_getElem? (i := 20) rfl)) | exact (hw _ (List.mem_of_getElem? (i := 21) rfl))
  · first | exact (hw _ (List.mem_of_getElem? (i := 15) rfl)) | exact (hw _ (List.mem_of_getElem? (i := 16) rfl)) | exact (hw _ (List.mem_of_getElem? (i := 17) rfl)) | exact (hw _ (List.mem_of_getElem? (i := 18) rfl)) | exact (hw _ (List.mem_of_getElem? (i := 19) rfl)) | exact (hw _ (List.mem_of_getElem? (i := 20) rfl)) | exact (hw _ (List.mem_of_getElem? (i := 21) rfl))
  · first | exact (hw _ (List.mem_of_getElem? (i := 15) rfl)) | exact (hw _ (List.mem_of_getElem? (i := 16) rfl)) | exact (hw _ (List.mem_of_getElem? (i := 17) rfl)) | exact (hw _ (List.mem_of_getElem? (i := 18) rfl)) | exact (hw _ (List.mem_of_getElem? (i := 19) rfl)) | exact (hw _ (List.mem_of_getElem? (i := 20) rfl)) | exact (hw _ (List.mem_of_getElem? (i := 21) rfl))
  · first | exact (hw _ (List.mem_of_getElem? (i := 15) rfl)) | exact (hw _ (List.mem_of_getElem? (i := 16) rfl)) | exact (hw _ (List.mem_of_getElem? (i := 17) rfl)) | exact (hw _ (List.mem_of_getElem? (i := 18) rfl)) | exact (hw _ (List.mem_of_getElem? (i := 19) rfl)) | exact (hw _ (List.mem_of_getElem? (i := 20) rfl)) | exact (hw _ (List.mem_of_getElem? (i := 21) rfl))
  · first | exact (hw _ (List.mem_of_getElem? (i := 15) rfl)) | exact (hw _ (List.mem_of_getElem? (i := 16) rfl)) | exact (hw _ (List.mem_of_getElem? (i := 17) rfl)) | exact (hw _ (List.mem_of_getElem? (i := 18) rfl)) | exact (hw _ (List.mem_of_getElem? (i := 19) rfl)) | exact (hw _ (List.mem_of_getElem? (i := 20) rfl)) | exact (hw _ (List.mem_of_getElem? (i := 21) rfl))
  · first | exact (hw _ (List.mem_of_getElem? (i := 15) rfl)) | exact (hw _ (List.mem_of_getElem? (i := 16) rfl)) | exact (hw _ (List.mem_of_getElem? (i := 17) rfl)) | exact (hw _ (List.mem_of_getElem? (i := 18) rfl)) | exact (hw _ (List.mem_of_getElem? (i := 19) rfl)) | exact (hw _ (List.mem_of_getElem? (i := 20) rfl)) | exact (hw _ (List.mem_of_getElem? (i := 21) rfl))
  · first | exact (hw _ (List.mem_of_getElem? (i := 15) rfl)) | exact (hw _ (List.mem_of_getElem? (i := 16) rfl)) | exact (hw _ (List.mem_of_getElem? (i := 17) rfl)) | exact (hw _ (List.mem_of_getElem? (i := 18) rfl)) | exact (hw _ (List.mem_of_getElem? (i := 19) rfl)) | exact (hw _ (List.mem_of_getElem? (i := 20) rfl)) | exact (hw _ (List.mem_of_getElem? (i := 21) rfl))
def own_EL : List (String × Nat) := [("com/example/cordon/cordon/Ending", 59), ("com/example/cordon/cordon/Ending", 60), ("com/example/cordon/cordon/EndingResultPinLaw", 32), ("com/example/cordon/cordon/EndingResultPinLaw", 34)]
theorem own_EW {Z : State} {a0 : Array Value} (hw : ∀ d ∈ tables_1, d.before a0 Z = true) : EW Z a0 own_EL := (EW.cons (hw _ (List.mem_of_getElem? (i := 14) rfl)) (by decide) (EW.cons (hw _ (List.mem_of_getElem? (i := 35) rfl)) (by decide) (EW.cons (hw _ (List.mem_of_getElem? (i := 22) rfl)) (by decide) (EW.cons (hw _ (List.mem_of_getElem? (i := 36) rfl)) (by decide) EW.nil))))
def own_won (i : Nat) : Int32 := [(119 : Int32), (111 : Int32), (110 : Int32)].getD i 0
theorem own_won_ok : ∀ i, i < (3 : Int32).toNatClampNeg → ("won".toList.map (fun c => Value.int (Jvm.Lit.byteI c.toNat.toUInt16))).getD i (.int 0) = Value.int (own_won i) := by
  intro i hi
  have hi : i < 3 := hi
  match i, hi with
  | 0, _ => rfl
  | 1, _ => rfl
  | 2, _ => rfl
def own_lost (i : Nat) : Int32 := [(108 : Int32), (111 : Int32), (115 : Int32), (116 : Int32)].getD i 0
theorem own_lost_ok : ∀ i, i < (4 : Int32).toNatClampNeg → ("lost".toList.map (fun c => Value.int (Jvm.Lit.byteI c.toNat.toUInt16))).getD i (.int 0) = Value.int (own_lost i) := by
  intro i hi
  have hi : i < 4 := hi
  match i, hi with
  | 0, _ => rfl
  | 1, _ => rfl
  | 2, _ => rfl
  | 3, _ => rfl
theorem d5_0 : decode jdk_43_method_13_code 0 = .ok (.aload_n 0, 1) := by decide +kernel
theorem d5_1 : decode jdk_43_method_13_code 1 = .ok (.arraylength, 1) := by decide +kernel
theorem d5_2 : decode jdk_43_method_13_code 2 = .ok (.aload_n 1, 1) := by decide +kernel
theorem d5_3 : decode jdk_43_method_13_code 3 = .ok (.arraylength, 1) := by decide +kernel
theorem d5_4 : decode jdk_43_method_13_code 4 = .ok (.if_icmp .ne 30, 3) := by decide +kernel
theorem d5_7 : decode jdk_43_method_13_code 7 = .ok (.iconst 0, 1) := by decide +kernel
theorem d5_8 : decode jdk_43_method_13_code 8 = .ok (.istore_n 2, 1) := by decide +kernel
theorem d5_9 : decode jdk_43_method_13_code 9 = .ok (.iload_n 2, 1) := by decide +kernel
theorem d5_10 : decode jdk_43_method_13_code 10 = .ok (.aload_n 0, 1) := by decide +kernel
theorem d5_11 : decode jdk_43_method_13_code 11 = .ok (.arraylength, 1) := by decide +kernel
theorem d5_12 : decode jdk_43_method_13_code 12 = .ok (.if_icmp .ge 20, 3) := by decide +kernel
theorem d5_15 : decode jdk_43_method_13_code 15 = .ok (.aload_n 0, 1) := by decide +kernel
theorem d5_16 : decode jdk_43_method_13_code 16 = .ok (.iload_n 2, 1) := by decide +kernel
theorem d5_17 : decode jdk_43_method_13_code 17 = .ok (.baload, 1) := by decide +kernel
theorem d5_18 : decode jdk_43_method_13_code 18 = .ok (.aload_n 1, 1) := by decide +kernel
theorem d5_19 : decode jdk_43_method_13_code 19 = .ok (.iload_n 2, 1) := by decide +kernel
theorem d5_20 : decode jdk_43_method_13_code 20 = .ok (.baload, 1) := by decide +kernel
theorem d5_21 : decode jdk_43_method_13_code 21 = .ok (.if_icmp .eq 5, 3) := by decide +kernel
theorem d5_26 : decode jdk_43_method_13_code 26 = .ok (.iinc 2 1, 3) := by decide +kernel
theorem d5_29 : decode jdk_43_method_13_code 29 = .ok (.goto (-20), 3) := by decide +kernel
theorem d5_32 : decode jdk_43_method_13_code 32 = .ok (.iconst 1, 1) := by decide +kernel
theorem d5_33 : decode jdk_43_method_13_code 33 = .ok (.ireturn, 1) := by decide +kernel
theorem pn_5 : plainName "java/lang/StringLatin1" = true := by first | (simp [plainName, overriddenIn]; done) | decide +kernel
theorem ef_5 (m : MethodId) (r0 : Addr) (r1 : Addr) : entryFrame m #[(.ref r0), (.ref r1)] 3 = mkF m 0 #[.val (.ref r0), .val (.ref r1), .unset] [] := by first | (simp [entryFrame, mkF, argsToLocals, Value.category]; done) | rfl
def rm5e3_room : Room := { frames := 0, cells := 0, slots := 0, locals := 0 }
def Qrm5e3 (Z : State) (r0 : Addr) (r1 : Addr) (g : Nat → Int32) (h0 : Heap) (n0 : Nat) (v : Option Value) (h : Heap) (L : List Loc) : Prop := v = some (.int (1 : Int32)) ∧ Fr n0 L ∧ h = h0
set_option maxRecDepth 65536 in
set_option maxHeartbeats 40000000 in
theorem rm5e3 (l : Launch) (Z : State) (a0 : Array Value) (hw : ∀ d ∈ tables_1, d.before a0 Z = true) (ws : List Jvm.Cond) (r0 : Addr) (r1 : Addr) (g : Nat → Int32) (h0 : Heap) (n0 : Nat) (Z0 : n0 ≤ h0.size) (A_r0_0 : own_Arf Z h0 r0 .byte (3 : Int32) (fun i => .int (g i))) (A_r1_0 : own_Arf Z h0 r1 .byte (3 : Int32) (fun i => .int (g i))) :
    MetFree l (⟨"java/lang/StringLatin1", "equals", "([B[B)Z"⟩ : MethodName) (head1 (Jvm.Cond.code (⟨"java/lang/StringLatin1", "equals", "([B[B)Z"⟩ : MethodName) jdk_43_method_13_code 3 (some .boolean) :: ws) rm5e3_room) (fun a U => a = #[(.ref r0), (.ref r1)] ∧ Z.Warmed39 U.vm ∧ U.heap = h0) (fun _ _ _ _ _ => True) (fun _ U o U' => ∃ v L, o = .returned v ∧ Qrm5e3 Z r0 r1 g h0 n0 v U'.heap L ∧ FrameEnd U o U' L rm5e3_room.cells rm5e3_room.slots) := by
  refine MetFree.of_bodySF (plainFor_of_name pn_5) hisR ?_
  intro p e s m args below meth c s₁ Bd hml0 hP hK
  obtain ⟨rfl, hZ, hh⟩ := hP
  have hx := Bd.exec
  have hby := Bd.bytes
  have hml : c.maxLocals = 3 := hml0
  have hown : s.vm.findClass "java/lang/StringLatin1" = some m.cls := findClass_of_methodNamed Bd.named
  have hnm := (name_of_methodNamed Bd.named Bd.method).1
  have hlk : meth.locks = false := BodyLoose.notSynchronized Bd
  have X0 : Stand p l e rm5e3_room s m #[(.ref r0), (.ref r1)] below meth c s₁ [] 0 0 := Stand.of_body Bd
  have e0 : s₁.heap = h0 := by rw [← hh, Bd.state]; rfl
  have N0 := Fr.nil n0
  show own_Fin p.tables e below s (Qrm5e3 Z r0 r1 g h0 n0) rm5e3_room.cells rm5e3_room.slots (s₁.setTop (entryFrame m #[(.ref r0), (.ref r1)] 3))
  rw [ef_5]
  show own_Fin _ _ _ _ _ _ _ (s₁.setTop (mkF m 0 #[.val (.ref r0), .val (.ref r1), .unset] []))
  refine own_go (fun _ k => XS.aloadN X0.here hx rfl (hb hby d5_0) rfl rfl k) ?_
  show own_Fin _ _ _ _ _ _ _ (s₁.setTop (mkF m 1 #[.val (.ref r0), .val (.ref r1), .unset] [(.ref r0)]))
  refine own_go (fun tg k => own_alen X0 hx hZ e0 A_r0_0 (g := (mkF m 1 #[.val (.ref r0), .val (.ref r1), .unset] [(.ref r0)])) rfl rfl (hb hby d5_1) tg k) ?_
  show own_Fin _ _ _ _ _ _ _ (s₁.setTop (mkF m 2 #[.val (.ref r0), .val (.ref r1), .unset] [(.int (3 : Int32))]))
  refine own_go (fun _ k => XS.aloadN X0.here hx rfl (hb hby d5_2) rfl rfl k) ?_
  show own_Fin _ _ _ _ _ _ _ (s₁.setTop (mkF m 3 #[.val (.ref r0), .val (.ref r1), .unset] [(.ref r1), (.int (3 : Int32))]))
  refine own_go (fun tg k => own_alen X0 hx hZ e0 A_r1_0 (g := (mkF m 3 #[.val (.ref r0), .val (.ref r1), .unset] [(.ref r1), (.int (3 : Int32))])) rfl rfl (hb hby d5_3) tg k) ?_
  show own_Fin _ _ _ _ _ _ _ (s₁.setTop (mkF m 4 #[.val (.ref r0), .val (.ref r1), .unset] [(.int (3 : Int32)), (.int (3 : Int32))]))
  refine own_go (fun _ k => XS.icmpNo X0.here hx rfl (hb hby d5_4) rfl (teq (by decide)).2 k) ?_
  show own_Fin _ _ _ _ _ _ _ (s₁.setTop (mkF m 7 #[.val (.ref r0), .val (.ref r1), .unset] []))
  refine own_go (fun _ k => XS.iconst X0.here hx rfl (hb hby d5_7) k) ?_
  show own_Fin _ _ _ _ _ _ _ (s₁.setTop (mkF m 8 #[.val (.ref r0), .val (.ref r1), .unset] [(.int (0 : Int32))]))
  refine own_go (fun _ k => XS.istoreN X0.here hx rfl (hb hby d5_8) rfl (l' := #[.val (.ref r0), .val (.ref r1), .val (.int (0 : Int32))]) rfl k) ?_
  show own_Fin _ _ _ _ _ _ _ (s₁.setTop (mkF m 9 #[.val (.ref r0), .val (.ref r1), .val (.int (0 : Int32))] []))
  refine own_go (fun _ k => XS.iloadN X0.here hx rfl (hb hby d5_9) rfl k) ?_
  show own_Fin _ _ _ _ _ _ _ (s₁.setTop (mkF m 10 #[.val (.ref r0), .val (.ref r1), .val (.int (0 : Int32))] [(.int (0 : Int32))]))
  refine own_go (fun _ k => XS.aloadN X0.here hx rfl (hb hby d5_10) rfl rfl k) ?_
  show own_Fin _ _ _ _ _ _ _ (s₁.setTop (mkF m 11 #[.val (.ref r0), .val (.ref r1), .val (.int (0 : Int32))] [(.ref r0), (.int (0 : Int32))]))
  refine own_go (fun tg k => own_alen X0 hx hZ e0 A_r0_0 (g := (mkF m 11 #[.val (.ref r0), .val (.ref r1), .val (.int (0 : Int32))] [(.ref r0), (.int (0 : Int32))])) rfl rfl (hb hby d5_11) tg k) ?_
  show own_Fin _ _ _ _ _ _ _ (s₁.setTop (mkF m 12 #[.val (.ref r0), .val (.ref r1), .val (.int (0 : Int32))] [(.int (3 : Int32)), (.int (0 : Int32))]))
  refine own_go (fun _ k => XS.icmpNo X0.here hx rfl (hb hby d5_12) rfl (tlt (by decide)).2.1 k) ?_
  show own_Fin _ _ _ _ _ _ _ (s₁.setTop (mkF m 15 #[.val (.ref r0), .val (.ref r1), .val (.int (0 : Int32))] []))
  refine own_go (fun _ k => XS.aloadN X0.here hx rfl (hb hby d5_15) rfl rfl k) ?_
  show own_Fin _ _ _ _ _ _ _ (s₁.setTop (mkF m 16 #[.val (.ref r0), .val (.ref r1), .val (.int (0 : Int32))] [(.ref r0)]))
  refine own_go (fun _ k => XS.iloadN X0.here hx rfl (hb hby d5_16) rfl k) ?_
  show own_Fin _ _ _ _ _ _ _ (s₁.setTop (mkF m 17 #[.val (.ref r0), .val (.ref r1), .val (.int (0 : Int32))] [(.int (0 : Int32)), (.ref r0)]))
  refine own_go (fun tg k => own_baload X0 hx hZ e0 A_r0_0 (j := (0 : Int32)) ⟨by decide, by decide⟩ (x := (g 0)) rfl (g := (mkF m 17 #[.val (.ref r0), .val (.ref r1), .val (.int (0 : Int32))] [(.int (0 : Int32)), (.ref r0)])) rfl rfl (hb hby d5_17) tg k) ?_
  show own_Fin _ _ _ _ _ _ _ (s₁.setTop (mkF m 18 #[.val (.ref r0), .val (.ref r1), .val (.int (0 : Int32))] [(.int (g 0))]))
  refine own_go (fun _ k => XS.aloadN X0.here hx rfl (hb hby d5_18) rfl rfl k) ?_
  show own_Fin _ _ _ _ _ _ _ (s₁.setTop (mkF m 19 #[.val (.ref r0), .val (.ref r1), .val (.int (0 : Int32))] [(.ref r1), (.int (g 0))]))
  refine own_go (fun _ k => XS.iloadN X0.here hx rfl (hb hby d5_19) rfl k) ?_
  show own_Fin _ _ _ _ _ _ _ (s₁.setTop (mkF m 20 #[.val (.ref r0), .val (.ref r1), .val (.int (0 : Int32))] [(.int (0 : Int32)), (.ref r1), (.int (g 0))]))
  refine own_go (fun tg k => own_baload X0 hx hZ e0 A_r1_0 (j := (0 : Int32)) ⟨by decide, by decide⟩ (x := (g 0)) rfl (g := (mkF m 20 #[.val (.ref r0), .val (.ref r1), .val (.int (0 : Int32))] [(.int (0 : Int32)), (.ref r1), (.int (g 0))])) rfl rfl (hb hby d5_20) tg k) ?_
  show own_Fin _ _ _ _ _ _ _ (s₁.setTop (mkF m 21 #[.val (.ref r0), .val (.ref r1), .val (.int (0 : Int32))] [(.int (g 0)), (.int (g 0))]))
  refine own_go (fun _ k => XS.icmpYes X0.here hx rfl (pc0 := 21) (pc' := 26) rfl (hb hby d5_21) rfl (teq rfl).1 (by decide) (by decide) k) ?_
  show own_Fin _ _ _ _ _ _ _ (s₁.setTop (mkF m 26 #[.val (.ref r0), .val (.ref r1), .val (.int (0 : Int32))] []))
  refine own_go (fun _ k => XS.iinc X0.here hx rfl (hb hby d5_26) rfl (l' := #[.val (.ref r0), .val (.ref r1), .val (.int (1 : Int32))]) rfl k) ?_
  show own_Fin _ _ _ _ _ _ _ (s₁.setTop (mkF m 29 #[.val (.ref r0), .val (.ref r1), .val (.int (1 : Int32))] []))
  refine own_go (fun _ k => XS.goto X0.here hx rfl (pc0 := 29) (pc' := 9) rfl (hb hby d5_29) (by decide) (by decide) k) ?_
  show own_Fin _ _ _ _ _ _ _ (s₁.setTop (mkF m 9 #[.val (.ref r0), .val (.ref r1), .val (.int (1 : Int32))] []))
  refine own_go (fun _ k => XS.iloadN X0.here hx rfl (hb hby d5_9) rfl k) ?_
  show own_Fin _ _ _ _ _ _ _ (s₁.setTop (mkF m 10 #[.val (.ref r0), .val (.ref r1), .val (.int (1 : Int32))] [(.int (1 : Int32))]))
  refine own_go (fun _ k => XS.aloadN X0.here hx rfl (hb hby d5_10) rfl rfl k) ?_
  show own_Fin _ _ _ _ _ _ _ (s₁.setTop (mkF m 11 #[.val (.ref r0), .val (.ref r1), .val (.int (1 : Int32))] [(.ref r0), (.int (1 : Int32))]))
  refine own_go (fun tg k => own_alen X0 hx hZ e0 A_r0_0 (g := (mkF m 11 #[.val (.ref r0), .val (.ref r1), .val (.int (1 : Int32))] [(.ref r0), (.int (1 : Int32))])) rfl rfl (hb hby d5_11) tg k) ?_
  show own_Fin _ _ _ _ _ _ _ (s₁.setTop (mkF m 12 #[.val (.ref r0), .val (.ref r1), .val (.int (1 : Int32))] [(.int (3 : Int32)), (.int (1 : Int32))]))
  refine own_go (fun _ k => XS.icmpNo X0.here hx rfl (hb hby d5_12) rfl (tlt (by decide)).2.1 k) ?_
  show own_Fin _ _ _ _ _ _ _ (s₁.setTop (mkF m 15 #[.val (.ref r0), .val (.ref r1), .val (.int (1 : Int32))] []))
  refine own_go (fun _ k => XS.aloadN X0.here hx rfl (hb hby d5_15) rfl rfl k) ?_
  show own_Fin _ _ _ _ _ _ _ (s₁.setTop (mkF m 16 #[.val (.ref r0), .val (.ref r1), .val (.int (1 : Int32))] [(.ref r0)]))
  refine own_go (fun _ k => XS.iloadN X0.here hx rfl (hb hby d5_16) rfl k) ?_
  show own_Fin _ _ _ _ _ _ _ (s₁.setTop (mkF m 17 #[.val (.ref r0), .val (.ref r1), .val (.int (1 : Int32))] [(.int (1 : Int32)), (.ref r0)]))
  refine own_go (fun tg k => own_baload X0 hx hZ e0 A_r0_0 (j := (1 : Int32)) ⟨by decide, by decide⟩ (x := (g 1)) rfl (g := (mkF m 17 #[.val (.ref r0), .val (.ref r1), .val (.int (1 : Int32))] [(.int (1 : Int32)), (.ref r0)])) rfl rfl (hb hby d5_17) tg k) ?_
  show own_Fin _ _ _ _ _ _ _ (s₁.setTop (mkF m 18 #[.val (.ref r0), .val (.ref r1), .val (.int (1 : Int32))] [(.int (g 1))]))
  refine own_go (fun _ k => XS.aloadN X0.here hx rfl (hb hby d5_18) rfl rfl k) ?_
  show own_Fin _ _ _ _ _ _ _ (s₁.setTop (mkF m 19 #[.val (.ref r0), .val (.ref r1), .val (.int (1 : Int32))] [(.ref r1), (.int (g 1))]))
  refine own_go (fun _ k => XS.iloadN X0.here hx rfl (hb hby d5_19) rfl k) ?_
  show own_Fin _ _ _ _ _ _ _ (s₁.setTop (mkF m 20 #[.val (.ref r0), .val (.ref r1), .val (.int (1 : Int32))] [(.int (1 : Int32)), (.ref r1), (.int (g 1))]))
  refine own_go (fun tg k => own_baload X0 hx hZ e0 A_r1_0 (j := (1 : Int32)) ⟨by decide, by decide⟩ (x := (g 1)) rfl (g := (mkF m 20 #[.val (.ref r0), .val (.ref r1), .val (.int (1 : Int32))] [(.int (1 : Int32)), (.ref r1), (.int (g 1))])) rfl rfl (hb hby d5_20) tg k) ?_
  show own_Fin _ _ _ _ _ _ _ (s₁.setTop (mkF m 21 #[.val (.ref r0), .val (.ref r1), .val (.int (1 : Int32))] [(.int (g 1)), (.int (g 1))]))
  refine own_go (fun _ k => XS.icmpYes X0.here hx rfl (pc0 := 21) (pc' := 26) rfl (hb hby d5_21) rfl (teq rfl).1 (by decide) (by decide) k) ?_
  show own_Fin _ _ _ _ _ _ _ (s₁.setTop (mkF m 26 #[.val (.ref r0), .val (.ref r1), .val (.int (1 : Int32))] []))
  refine own_go (fun _ k => XS.iinc X0.here hx rfl (hb hby d5_26) rfl (l' := #[.val (.ref r0), .val (.ref r1), .val (.int (2 : Int32))]) rfl k) ?_
  show own_Fin _ _ _ _ _ _ _ (s₁.setTop (mkF m 29 #[.val (.ref r0), .val (.ref r1), .val (.int (2 : Int32))] []))
  refine own_go (fun _ k => XS.goto X0.here hx rfl (pc0 := 29) (pc' := 9) rfl (hb hby d5_29) (by decide) (by decide) k) ?_
  show own_Fin _ _ _ _ _ _ _ (s₁.setTop (mkF m 9 #[.val (.ref r0), .val (.ref r1), .val (.int (2 : Int32))] []))
  refine own_go (fun _ k => XS.iloadN X0.here hx rfl (hb hby d5_9) rfl k) ?_
  show own_Fin _ _ _ _ _ _ _ (s₁.setTop (mkF m 10 #[.val (.ref r0), .val (.ref r1), .val (.int (2 : Int32))] [(.int (2 : Int32))]))
  refine own_go (fun _ k => XS.aloadN X0.here hx rfl (hb hby d5_10) rfl rfl k) ?_
  show own_Fin _ _ _ _ _ _ _ (s₁.setTop (mkF m 11 #[.val (.ref r0), .val (.ref r1), .val (.int (2 : Int32))] [(.ref r0), (.int (2 : Int32))]))
  refine own_go (fun tg k => own_alen X0 hx hZ e0 A_r0_0 (g := (mkF m 11 #[.val (.ref r0), .val (.ref r1), .val (.int (2 : Int32))] [(.ref r0), (.int (2 : Int32))])) rfl rfl (hb hby d5_11) tg k) ?_
  show own_Fin _ _ _ _ _ _ _ (s₁.setTop (mkF m 12 #[.val (.ref r0), .val (.ref r1), .val (.int (2 : Int32))] [(.int (3 : Int32)), (.int (2 : Int32))]))
  refine own_go (fun _ k => XS.icmpNo X0.here hx rfl (hb hby d5_12) rfl (tlt (by decide)).2.1 k) ?_
  show own_Fin _ _ _ _ _ _ _ (s₁.setTop (mkF m 15 #[.val (.ref r0), .val (.ref r1), .val (.int (2 : Int32))] []))
  refine own_go (fun _ k => XS.aloadN X0.here hx rfl (hb hby d5_15) rfl rfl k) ?_
  show own_Fin _ _ _ _ _ _ _ (s₁.setTop (mkF m 16 #[.val (.ref r0), .val (.ref r1), .val (.int (2 : Int32))] [(.ref r0)]))
  refine own_go (fun _ k => XS.iloadN X0.here hx rfl (hb hby d5_16) rfl k) ?_
  show own_Fin _ _ _ _ _ _ _ (s₁.setTop (mkF m 17 #[.val (.ref r0), .val (.ref r1), .val (.int (2 : Int32))] [(.int (2 : Int32)), (.ref r0)]))
  refine own_go (fun tg k => own_baload X0 hx hZ e0 A_r0_0 (j := (2 : Int32)) ⟨by decide, by decide⟩ (x := (g 2)) rfl (g := (mkF m 17 #[.val (.ref r0), .val (.ref r1), .val (.int (2 : Int32))] [(.int (2 : Int32)), (.ref r0)])) rfl rfl (hb hby d5_17) tg k) ?_
  show own_Fin _ _ _ _ _ _ _ (s₁.setTop (mkF m 18 #[.val (.ref r0), .val (.ref r1), .val (.int (2 : Int32))] [(.int (g 2))]))
  refine own_go (fun _ k => XS.aloadN X0.here hx rfl (hb hby d5_18) rfl rfl k) ?_
  show own_Fin _ _ _ _ _ _ _ (s₁.setTop (mkF m 19 #[.val (.ref r0), .val (.ref r1), .val (.int (2 : Int32))] [(.ref r1), (.int (g 2))]))
  refine own_go (fun _ k => XS.iloadN X0.here hx rfl (hb hby d5_19) rfl k) ?_
  show own_Fin _ _ _ _ _ _ _ (s₁.setTop (mkF m 20 #[.val (.ref r0), .val (.ref r1), .val (.int (2 : Int32))] [(.int (2 : Int32)), (.ref r1), (.int (g 2))]))
  refine own_go (fun tg k => own_baload X0 hx hZ e0 A_r1_0 (j := (2 : Int32)) ⟨by decide, by decide⟩ (x := (g 2)) rfl (g := (mkF m 20 #[.val (.ref r0), .val (.ref r1), .val (.int (2 : Int32))] [(.int (2 : Int32)), (.ref r1), (.int (g 2))])) rfl rfl (hb hby d5_20) tg k) ?_
  show own_Fin _ _ _ _ _ _ _ (s₁.setTop (mkF m 21 #[.val (.ref r0), .val (.ref r1), .val (.int (2 : Int32))] [(.int (g 2)), (.int (g 2))]))
  refine own_go (fun _ k => XS.icmpYes X0.here hx rfl (pc0 := 21) (pc' := 26) rfl (hb hby d5_21) rfl (teq rfl).1 (by decide) (by decide) k) ?_
  show own_Fin _ _ _ _ _ _ _ (s₁.setTop (mkF m 26 #[.val (.ref r0), .val (.ref r1), .val (.int (2 : Int32))] []))
  refine own_go (fun _ k => XS.iinc X0.here hx rfl (hb hby d5_26) rfl (l' := #[.val (.ref r0), .val (.ref r1), .val (.int (3 : Int32))]) rfl k) ?_
  show own_Fin _ _ _ _ _ _ _ (s₁.setTop (mkF m 29 #[.val (.ref r0), .val (.ref r1), .val (.int (3 : Int32))] []))
  refine own_go (fun _ k => XS.goto X0.here hx rfl (pc0 := 29) (pc' := 9) rfl (hb hby d5_29) (by decide) (by decide) k) ?_
  show own_Fin _ _ _ _ _ _ _ (s₁.setTop (mkF m 9 #[.val (.ref r0), .val (.ref r1), .val (.int (3 : Int32))] []))
  refine own_go (fun _ k => XS.iloadN X0.here hx rfl (hb hby d5_9) rfl k) ?_
  show own_Fin _ _ _ _ _ _ _ (s₁.setTop (mkF m 10 #[.val (.ref r0), .val (.ref r1), .val (.int (3 : Int32))] [(.int (3 : Int32))]))
  refine own_go (fun _ k => XS.aloadN X0.here hx rfl (hb hby d5_10) rfl rfl k) ?_
  show own_Fin _ _ _ _ _ _ _ (s₁.setTop (mkF m 11 #[.val (.ref r0), .val (.ref r1), .val (.int (3 : Int32))] [(.ref r0), (.int (3 : Int32))]))
  refine own_go (fun tg k => own_alen X0 hx hZ e0 A_r0_0 (g := (mkF m 11 #[.val (.ref r0), .val (.ref r1), .val (.int (3 : Int32))] [(.ref r0), (.int (3 : Int32))])) rfl rfl (hb hby d5_11) tg k) ?_
  show own_Fin _ _ _ _ _ _ _ (s₁.setTop (mkF m 12 #[.val (.ref r0), .val (.ref r1), .val (.int (3 : Int32))] [(.int (3 : Int32)), (.int (3 : Int32))]))
  refine own_go (fun _ k => XS.icmpYes X0.here hx rfl (pc0 := 12) (pc' := 32) rfl (hb hby d5_12) rfl (flt (by decide)).2.1 (by decide) (by decide) k) ?_
  show own_Fin _ _ _ _ _ _ _ (s₁.setTop (mkF m 32 #[.val (.ref r0), .val (.ref r1), .val (.int (3 : Int32))] []))
  refine own_go (fun _ k => XS.iconst X0.here hx rfl (hb hby d5_32) k) ?_
  show own_Fin _ _ _ _ _ _ _ (s₁.setTop (mkF m 33 #[.val (.ref r0), .val (.ref r1), .val (.int (3 : Int32))] [(.int (1 : Int32))]))
  refine own_ret X0 hx hlk Bd.returns rfl (Or.inl ⟨rfl, by simp, _, rfl⟩) (hb hby d5_33) (Nat.le_of_ble_eq_true rfl) (Nat.le_of_ble_eq_true rfl) ?_
  refine ⟨?_, N0, e0⟩
  · rfl
theorem own_pd24 : parseMethodDescriptor "([B[B)Z" = some ⟨[(.array .byte), (.array .byte)], some .boolean⟩ := by decide +kernel
theorem d3_0 : decode jdk_42_method_66_code 0 = .ok (.aload_n 0, 1) := by decide +kernel
theorem d3_1 : decode jdk_42_method_66_code 1 = .ok (.aload_n 1, 1) := by decide +kernel
theorem d3_2 : decode jdk_42_method_66_code 2 = .ok (.if_acmp .ne 5, 3) := by decide +kernel
theorem d3_5 : decode jdk_42_method_66_code 5 = .ok (.iconst 1, 1) := by decide +kernel
theorem d3_6 : decode jdk_42_method_66_code 6 = .ok (.ireturn, 1) := by decide +kernel
theorem d3_7 : decode jdk_42_method_66_code 7 = .ok (.aload_n 1, 1) := by decide +kernel
theorem d3_8 : decode jdk_42_method_66_code 8 = .ok (.instanceof 10, 3) := by decide +kernel
theorem d3_11 : decode jdk_42_method_66_code 11 = .ok (.ifCond .eq 43, 3) := by decide +kernel
theorem d3_14 : decode jdk_42_method_66_code 14 = .ok (.aload_n 1, 1) := by decide +kernel
theorem d3_15 : decode jdk_42_method_66_code 15 = .ok (.checkcast 10, 3) := by decide +kernel
theorem d3_18 : decode jdk_42_method_66_code 18 = .ok (.astore_n 2, 1) := by decide +kernel
theorem d3_19 : decode jdk_42_method_66_code 19 = .ok (.getstatic 38, 3) := by decide +kernel
theorem d3_22 : decode jdk_42_method_66_code 22 = .ok (.ifCond .eq 14, 3) := by decide +kernel
theorem d3_25 : decode jdk_42_method_66_code 25 = .ok (.aload_n 0, 1) := by decide +kernel
theorem d3_26 : decode jdk_42_method_66_code 26 = .ok (.getfield 15, 3) := by decide +kernel
theorem d3_29 : decode jdk_42_method_66_code 29 = .ok (.aload_n 2, 1) := by decide +kernel
theorem d3_30 : decode jdk_42_method_66_code 30 = .ok (.getfield 15, 3) := by decide +kernel
theorem d3_33 : decode jdk_42_method_66_code 33 = .ok (.if_icmp .ne 21, 3) := by decide +kernel
theorem d3_36 : decode jdk_42_method_66_code 36 = .ok (.aload_n 0, 1) := by decide +kernel
theorem d3_37 : decode jdk_42_method_66_code 37 = .ok (.getfield 9, 3) := by decide +kernel
theorem d3_40 : decode jdk_42_method_66_code 40 = .ok (.aload_n 2, 1) := by decide +kernel
theorem d3_41 : decode jdk_42_method_66_code 41 = .ok (.getfield 9, 3) := by decide +kernel
theorem d3_44 : decode jdk_42_method_66_code 44 = .ok (.invokestatic 541, 3) := by decide +kernel
theorem d3_47 : decode jdk_42_method_66_code 47 = .ok (.ifCond .eq 7, 3) := by decide +kernel
theorem d3_50 : decode jdk_42_method_66_code 50 = .ok (.iconst 1, 1) := by decide +kernel
theorem d3_51 : decode jdk_42_method_66_code 51 = .ok (.goto 4, 3) := by decide +kernel
theorem d3_55 : decode jdk_42_method_66_code 55 = .ok (.ireturn, 1) := by decide +kernel
theorem pn_3 : plainName "java/lang/String" = true := by first | (simp [plainName, overriddenIn]; done) | decide +kernel
theorem ef_3 (m : MethodId) (r0 : Addr) (r1 : Addr) : entryFrame m #[(.ref r0), (.ref r1)] 3 = mkF m 0 #[.val (.ref r0), .val (.ref r1), .unset] [] := by first | (simp [entryFrame, mkF, argsToLocals, Value.category]; done) | rfl
def rm3e3_room : Room := { frames := 1, cells := 0, slots := 0, locals := 14 }
def Qrm3e3 (Z : State) (r0 : Addr) (r1 : Addr) (v0 : Addr) (v1 : Addr) (cs : Int32) (g : Nat → Int32) (h0 : Heap) (n0 : Nat) (v : Option Value) (h : Heap) (L : List Loc) : Prop := v = some (.int (1 : Int32)) ∧ Fr n0 L ∧ h = h0
set_option maxRecDepth 65536 in
set_option maxHeartbeats 40000000 in
theorem rm3e3 (l : Launch) (Z : State) (a0 : Array Value) (hw : ∀ d ∈ tables_1, d.before a0 Z = true) (ws : List Jvm.Cond) (r0 : Addr) (r1 : Addr) (v0 : Addr) (v1 : Addr) (cs : Int32) (g : Nat → Int32) (h0 : Heap) (n0 : Nat) (Z0 : n0 ≤ h0.size) (E_r0_0 : Exa Z h0 r0 "java/lang/String") (F_coder_r0_0 : Fld Z h0 r0 "java/lang/String" "coder" "B" (.int (0 : Int32))) (F_value_r0_0 : Fld Z h0 r0 "java/lang/String" "value" "[B" (.ref v0)) (A_v0_0 : own_Arf Z h0 v0 .byte (3 : Int32) (fun i => .int (g i))) (E_r1_0 : Exa Z h0 r1 "java/lang/String") (F_coder_r1_0 : Fld Z h0 r1 "java/lang/String" "coder" "B" (.int (0 : Int32))) (F_value_r1_0 : Fld Z h0 r1 "java/lang/String" "value" "[B" (.ref v1)) (A_v1_0 : own_Arf Z h0 v1 .byte (3 : Int32) (fun i => .int (g i))) (S_COMPACT_STRINGS_0 : Sta Z h0 "java/lang/String" "COMPACT_STRINGS" "Z" (.int cs)) (hcs : ¬ (cs = (0 : Int32))) :
    MetFree l (⟨"java/lang/String", "equals", "(Ljava/lang/Object;)Z"⟩ : MethodName) (head1 (Jvm.Cond.code (⟨"java/lang/String", "equals", "(Ljava/lang/Object;)Z"⟩ : MethodName) jdk_42_method_66_code 3 (some .boolean) :: ws) rm3e3_room) (fun a U => a = #[(.ref r0), (.ref r1)] ∧ Z.Warmed39 U.vm ∧ U.heap = h0) (fun _ _ _ _ _ => True) (fun _ U o U' => ∃ v L, o = .returned v ∧ Qrm3e3 Z r0 r1 v0 v1 cs g h0 n0 v U'.heap L ∧ FrameEnd U o U' L rm3e3_room.cells rm3e3_room.slots) := by
  refine MetFree.of_bodySF (plainFor_of_name pn_3) hisR ?_
  intro p e s m args below meth c s₁ Bd hml0 hP hK
  obtain ⟨rfl, hZ, hh⟩ := hP
  have hx := Bd.exec
  have hby := Bd.bytes
  have hml : c.maxLocals = 3 := hml0
  have hown : s.vm.findClass "java/lang/String" = some m.cls := findClass_of_methodNamed Bd.named
  have hnm := (name_of_methodNamed Bd.named Bd.method).1
  have hlk : meth.locks = false := BodyLoose.notSynchronized Bd
  have X0 : Stand p l e rm3e3_room s m #[(.ref r0), (.ref r1)] below meth c s₁ [] 0 0 := Stand.of_body Bd
  have e0 : s₁.heap = h0 := by rw [← hh, Bd.state]; rfl
  have N0 := Fr.nil n0
  show own_Fin p.tables e below s (Qrm3e3 Z r0 r1 v0 v1 cs g h0 n0) rm3e3_room.cells rm3e3_room.slots (s₁.setTop (entryFrame m #[(.ref r0), (.ref r1)] 3))
  rw [ef_3]
  show own_Fin _ _ _ _ _ _ _ (s₁.setTop (mkF m 0 #[.val (.ref r0), .val (.ref r1), .unset] []))
  refine own_go (fun _ k => XS.aloadN X0.here hx rfl (hb hby d3_0) rfl rfl k) ?_
  show own_Fin _ _ _ _ _ _ _ (s₁.setTop (mkF m 1 #[.val (.ref r0), .val (.ref r1), .unset] [(.ref r0)]))
  refine own_go (fun _ k => XS.aloadN X0.here hx rfl (hb hby d3_1) rfl rfl k) ?_
  show own_Fin _ _ _ _ _ _ _ (s₁.setTop (mkF m 2 #[.val (.ref r0), .val (.ref r1), .unset] [(.ref r1), (.ref r0)]))
  by_cases hc1 : r0 = r1
  · refine own_go (fun _ k => Jvm.RoadKit.acmp X0 hx rfl (x := (.ref r0)) (y := (.ref r1)) rfl rfl (pc0 := 2) (pc' := 5) (same := true) rfl (hb hby d3_2) rfl (decide_eq_true (congrArg Value.ref hc1)) (by decide) (by decide) k) ?_
    show own_Fin _ _ _ _ _ _ _ (s₁.setTop (mkF m 5 #[.val (.ref r0), .val (.ref r1), .unset] []))
    refine own_go (fun _ k => XS.iconst X0.here hx rfl (hb hby d3_5) k) ?_
    show own_Fin _ _ _ _ _ _ _ (s₁.setTop (mkF m 6 #[.val (.ref r0), .val (.ref r1), .unset] [(.int (1 : Int32))]))
    refine own_ret X0 hx hlk Bd.returns rfl (Or.inl ⟨rfl, by simp, _, rfl⟩) (hb hby d3_6) (Nat.le_of_ble_eq_true rfl) (Nat.le_of_ble_eq_true rfl) ?_
    refine ⟨?_, N0, e0⟩
    · rfl
  · refine own_go (fun _ k => Jvm.RoadKit.acmp X0 hx rfl (x := (.ref r0)) (y := (.ref r1)) rfl rfl (pc0 := 2) (pc' := 7) (same := false) rfl (hb hby d3_2) rfl (decide_eq_false (fun q => hc1 (Value.ref.inj q))) (by decide) (by decide) k) ?_
    show own_Fin _ _ _ _ _ _ _ (s₁.setTop (mkF m 7 #[.val (.ref r0), .val (.ref r1), .unset] []))
    refine own_go (fun _ k => XS.aloadN X0.here hx rfl (hb hby d3_7) rfl rfl k) ?_
    show own_Fin _ _ _ _ _ _ _ (s₁.setTop (mkF m 8 #[.val (.ref r0), .val (.ref r1), .unset] [(.ref r1)]))
    obtain ⟨T2, X2, e2, st2⟩ := instY X0 hx hZ hown (hw _ (List.mem_of_getElem? (i := 37) rfl)) e0 (Ins.self E_r1_0) (g := (mkF m 8 #[.val (.ref r0), .val (.ref r1), .unset] [(.ref r1)])) rfl rfl (hb hby d3_8)
    refine own_go (fun tg k => st2 tg k) ?_
    show own_Fin _ _ _ _ _ _ _ (T2.setTop (mkF m 11 #[.val (.ref r0), .val (.ref r1), .unset] [(.int (1 : Int32))]))
    refine own_go (fun _ k => XS.ifNo X2.here hx rfl (hb hby d3_11) rfl ((if0 _ _).trans (feq (by decide)).1) k) ?_
    show own_Fin _ _ _ _ _ _ _ (T2.setTop (mkF m 14 #[.val (.ref r0), .val (.ref r1), .unset] []))
    refine own_go (fun _ k => XS.aloadN X2.here hx rfl (hb hby d3_14) rfl rfl k) ?_
    show own_Fin _ _ _ _ _ _ _ (T2.setTop (mkF m 15 #[.val (.ref r0), .val (.ref r1), .unset] [(.ref r1)]))
    obtain ⟨T3, X3, e3, st3⟩ := castY X2 hx hZ hown (hw _ (List.mem_of_getElem? (i := 37) rfl)) e2 (Ins.self E_r1_0) (g := (mkF m 15 #[.val (.ref r0), .val (.ref r1), .unset] [(.ref r1)])) rfl rfl (hb hby d3_15)
    refine own_go (fun tg k => st3 tg k) ?_
    show own_Fin _ _ _ _ _ _ _ (T3.setTop (mkF m 18 #[.val (.ref r0), .val (.ref r1), .unset] [(.ref r1)]))
    refine own_go (fun _ k => XS.astoreN X3.here hx rfl (hb hby d3_18) rfl rfl (l' := #[.val (.ref r0), .val (.ref r1), .val (.ref r1)]) rfl k) ?_
    show own_Fin _ _ _ _ _ _ _ (T3.setTop (mkF m 19 #[.val (.ref r0), .val (.ref r1), .val (.ref r1)] []))
    obtain ⟨T4, X4, e4, st4⟩ := getS2 X3 hx hZ hown (host := "") (Or.inl (hw _ (List.mem_of_getElem? (i := 39) rfl))) Via.refl e3 S_COMPACT_STRINGS_0 (g := (mkF m 19 #[.val (.ref r0), .val (.ref r1), .val (.ref r1)] [])) rfl (hb hby d3_19)
    refine own_go (fun tg k => st4 tg k) ?_
    show own_Fin _ _ _ _ _ _ _ (T4.setTop (mkF m 22 #[.val (.ref r0), .val (.ref r1), .val (.ref r1)] [(.int cs)]))
    have hc22 : ¬ (cs = (0 : Int32)) := hcs
    refine own_go (fun _ k => XS.ifNo X4.here hx rfl (hb hby d3_22) rfl ((if0 _ _).trans (feq hc22).1) k) ?_
    show own_Fin _ _ _ _ _ _ _ (T4.setTop (mkF m 25 #[.val (.ref r0), .val (.ref r1), .val (.ref r1)] []))
    refine own_go (fun _ k => XS.aloadN X4.here hx rfl (hb hby d3_25) rfl rfl k) ?_
    show own_Fin _ _ _ _ _ _ _ (T4.setTop (mkF m 26 #[.val (.ref r0), .val (.ref r1), .val (.ref r1)] [(.ref r0)]))
    obtain ⟨T5, X5, e5, st5⟩ := getF X4 hx hZ hown (host := "") (Or.inl (hw _ (List.mem_of_getElem? (i := 40) rfl))) Via.refl e4 F_coder_r0_0 (g := (mkF m 26 #[.val (.ref r0), .val (.ref r1), .val (.ref r1)] [(.ref r0)])) rfl rfl (hb hby d3_26)
    refine own_go (fun tg k => st5 tg k) ?_
    show own_Fin _ _ _ _ _ _ _ (T5.setTop (mkF m 29 #[.val (.ref r0), .val (.ref r1), .val (.ref r1)] [(.int (0 : Int32))]))
    refine own_go (fun _ k => XS.aloadN X5.here hx rfl (hb hby d3_29) rfl rfl k) ?_
    show own_Fin _ _ _ _ _ _ _ (T5.setTop (mkF m 30 #[.val (.ref r0), .val (.ref r1), .val (.ref r1)] [(.ref r1), (.int (0 : Int32))]))
    obtain ⟨T6, X6, e6, st6⟩ := getF X5 hx hZ hown (host := "") (Or.inl (hw _ (List.mem_of_getElem? (i := 40) rfl))) Via.refl e5 F_coder_r1_0 (g := (mkF m 30 #[.val (.ref r0), .val (.ref r1), .val (.ref r1)] [(.ref r1), (.int (0 : Int32))])) rfl rfl (hb hby d3_30)
    refine own_go (fun tg k => st6 tg k) ?_
    show own_Fin _ _ _ _ _ _ _ (T6.setTop (mkF m 33 #[.val (.ref r0), .val (.ref r1), .val (.ref r1)] [(.int (0 : Int32)), (.int (0 : Int32))]))
    refine own_go (fun _ k => XS.icmpNo X6.here hx rfl (hb hby d3_33) rfl (teq (by decide)).2 k) ?_
    show own_Fin _ _ _ _ _ _ _ (T6.setTop (mkF m 36 #[.val (.ref r0), .val (.ref r1), .val (.ref r1)] []))
    refine own_go (fun _ k => XS.aloadN X6.here hx rfl (hb hby d3_36) rfl rfl k) ?_
    show own_Fin _ _ _ _ _ _ _ (T6.setTop (mkF m 37 #[.val (.ref r0), .val (.ref r1), .val (.ref r1)] [(.ref r0)]))
    obtain ⟨T7, X7, e7, st7⟩ := getF X6 hx hZ hown (host := "") (Or.inl (hw _ (List.mem_of_getElem? (i := 41) rfl))) Via.refl e6 F_value_r0_0 (g := (mkF m 37 #[.val (.ref r0), .val (.ref r1), .val (.ref r1)] [(.ref r0)])) rfl rfl (hb hby d3_37)
    refine own_go (fun tg k => st7 tg k) ?_
    show own_Fin _ _ _ _ _ _ _ (T7.setTop (mkF m 40 #[.val (.ref r0), .val (.ref r1), .val (.ref r1)] [(.ref v0)]))
    refine own_go (fun _ k => XS.aloadN X7.here hx rfl (hb hby d3_40) rfl rfl k) ?_
    show own_Fin _ _ _ _ _ _ _ (T7.setTop (mkF m 41 #[.val (.ref r0), .val (.ref r1), .val (.ref r1)] [(.ref r1), (.ref v0)]))
    obtain ⟨T8, X8, e8, st8⟩ := getF X7 hx hZ hown (host := "") (Or.inl (hw _ (List.mem_of_getElem? (i := 41) rfl))) Via.refl e7 F_value_r1_0 (g := (mkF m 41 #[.val (.ref r0), .val (.ref r1), .val (.ref r1)] [(.ref r1), (.ref v0)])) rfl rfl (hb hby d3_41)
    refine own_go (fun tg k => st8 tg k) ?_
    show own_Fin _ _ _ _ _ _ _ (T8.setTop (mkF m 44 #[.val (.ref r0), .val (.ref r1), .val (.ref r1)] [(.ref v1), (.ref v0)]))
    obtain ⟨_, _, ⟨T9, L9, k9, n9⟩, -, X9, ⟨Lc9, hQ9, l9, y9, z9⟩, st9⟩ := Jvm.LawKit.callS X8 hx (y := (⟨"java/lang/StringLatin1", "equals", "([B[B)Z"⟩ : MethodName)) hown (mvT hZ (hw _ (List.mem_of_getElem? (i := 42) rfl))) (mvT hZ (hw _ (List.mem_of_getElem? (i := 43) rfl))) (mvT hZ (hw _ (List.mem_of_getElem? (i := 44) rfl))) (mvT hZ (hw _ (List.mem_of_getElem? (i := 45) rfl))) (by decide) (backOf (W := 0) (rm5e3 l Z a0 hw [] v0 v1 g h0 n0 Z0 A_v0_0 A_v1_0) hZ (hw _ (List.mem_of_getElem? (i := 45) rfl)) (hw _ (List.mem_of_getElem? (i := 44) rfl)) (by decide) (by decide)) (g := (mkF m 44 #[.val (.ref r0), .val (.ref r1), .val (.ref r1)] [(.ref v1), (.ref v0)])) rfl (by rw [hml]; rfl) (argsL := [(.ref v0), (.ref v1)]) (rest := []) (lenOf own_pd24 rfl) rfl (by show 2 * 0 + _ ≤ _; exact Nat.le_of_eq rfl) (hb hby d3_44) (fun _ _ => ⟨rfl, e8, (by decide : 0 + 0 ≤ _), (by decide : 0 + 0 ≤ _)⟩)
    dsimp only [Pt.U, Pt.locs, Pt.cells, Pt.slots] at X9 l9 y9 z9 st9 hQ9
    replace y9 : 0 = k9 := y9.symm
    replace z9 : 0 = n9 := z9.symm
    subst y9 z9
    obtain ⟨rfl, N9q, e9⟩ := hQ9
    have N9 : Fr n0 L9 := by rw [l9]; exact Fr.app N0 N9q
    refine own_go (fun tg k => st9 tg k) ?_
    show own_Fin _ _ _ _ _ _ _ (T9.setTop (mkF m 47 #[.val (.ref r0), .val (.ref r1), .val (.ref r1)] [(.int (1 : Int32))]))
    refine own_go (fun _ k => XS.ifNo X9.here hx rfl (hb hby d3_47) rfl ((if0 _ _).trans (feq (by decide)).1) k) ?_
    show own_Fin _ _ _ _ _ _ _ (T9.setTop (mkF m 50 #[.val (.ref r0), .val (.ref r1), .val (.ref r1)] []))
    refine own_go (fun _ k => XS.iconst X9.here hx rfl (hb hby d3_50) k) ?_
    show own_Fin _ _ _ _ _ _ _ (T9.setTop (mkF m 51 #[.val (.ref r0), .val (.ref r1), .val (.ref r1)] [(.int (1 : Int32))]))
    refine own_go (fun _ k => XS.goto X9.here hx rfl (pc0 := 51) (pc' := 55) rfl (hb hby d3_51) (by decide) (by decide) k) ?_
    show own_Fin _ _ _ _ _ _ _ (T9.setTop (mkF m 55 #[.val (.ref r0), .val (.ref r1), .val (.ref r1)] [(.int (1 : Int32))]))
    refine own_ret X9 hx hlk Bd.returns rfl (Or.inl ⟨rfl, by simp, _, rfl⟩) (hb hby d3_55) (Nat.le_of_ble_eq_true rfl) (Nat.le_of_ble_eq_true rfl) ?_
    refine ⟨?_, N9, e9⟩
    · rfl
def rm5e4_room : Room := { frames := 0, cells := 0, slots := 0, locals := 0 }
def Qrm5e4 (Z : State) (r0 : Addr) (r1 : Addr) (g : Nat → Int32) (h0 : Heap) (n0 : Nat) (v : Option Value) (h : Heap) (L : List Loc) : Prop := v = some (.int (1 : Int32)) ∧ Fr n0 L ∧ h = h0
set_option maxRecDepth 65536 in
set_option maxHeartbeats 40000000 in
theorem rm5e4 (l : Launch) (Z : State) (a0 : Array Value) (hw : ∀ d ∈ tables_1, d.before a0 Z = true) (ws : List Jvm.Cond) (r0 : Addr) (r1 : Addr) (g : Nat → Int32) (h0 : Heap) (n0 : Nat) (Z0 : n0 ≤ h0.size) (A_r0_0 : own_Arf Z h0 r0 .byte (4 : Int32) (fun i => .int (g i))) (A_r1_0 : own_Arf Z h0 r1 .byte (4 : Int32) (fun i => .int (g i))) :
    MetFree l (⟨"java/lang/StringLatin1", "equals", "([B[B)Z"⟩ : MethodName) (head1 (Jvm.Cond.code (⟨"java/lang/StringLatin1", "equals", "([B[B)Z"⟩ : MethodName) jdk_43_method_13_code 3 (some .boolean) :: ws) rm5e4_room) (fun a U => a = #[(.ref r0), (.ref r1)] ∧ Z.Warmed39 U.vm ∧ U.heap = h0) (fun _ _ _ _ _ => True) (fun _ U o U' => ∃ v L, o = .returned v ∧ Qrm5e4 Z r0 r1 g h0 n0 v U'.heap L ∧ FrameEnd U o U' L rm5e4_room.cells rm5e4_room.slots) := by
  refine MetFree.of_bodySF (plainFor_of_name pn_5) hisR ?_
  intro p e s m args below meth c s₁ Bd hml0 hP hK
  obtain ⟨rfl, hZ, hh⟩ := hP
  have hx := Bd.exec
  have hby := Bd.bytes
  have hml : c.maxLocals = 3 := hml0
  have hown : s.vm.findClass "java/lang/StringLatin1" = some m.cls := findClass_of_methodNamed Bd.named
  have hnm := (name_of_methodNamed Bd.named Bd.method).1
  have hlk : meth.locks = false := BodyLoose.notSynchronized Bd
  have X0 : Stand p l e rm5e4_room s m #[(.ref r0), (.ref r1)] below meth c s₁ [] 0 0 := Stand.of_body Bd
  have e0 : s₁.heap = h0 := by rw [← hh, Bd.state]; rfl
  have N0 := Fr.nil n0
  show own_Fin p.tables e below s (Qrm5e4 Z r0 r1 g h0 n0) rm5e4_room.cells rm5e4_room.slots (s₁.setTop (entryFrame m #[(.ref r0), (.ref r1)] 3))
  rw [ef_5]
  show own_Fin _ _ _ _ _ _ _ (s₁.setTop (mkF m 0 #[.val (.ref r0), .val (.ref r1), .unset] []))
  refine own_go (fun _ k => XS.aloadN X0.here hx rfl (hb hby d5_0) rfl rfl k) ?_
  show own_Fin _ _ _ _ _ _ _ (s₁.setTop (mkF m 1 #[.val (.ref r0), .val (.ref r1), .unset] [(.ref r0)]))
  refine own_go (fun tg k => own_alen X0 hx hZ e0 A_r0_0 (g := (mkF m 1 #[.val (.ref r0), .val (.ref r1), .unset] [(.ref r0)])) rfl rfl (hb hby d5_1) tg k) ?_
  show own_Fin _ _ _ _ _ _ _ (s₁.setTop (mkF m 2 #[.val (.ref r0), .val (.ref r1), .unset] [(.int (4 : Int32))]))
  refine own_go (fun _ k => XS.aloadN X0.here hx rfl (hb hby d5_2) rfl rfl k) ?_
  show own_Fin _ _ _ _ _ _ _ (s₁.setTop (mkF m 3 #[.val (.ref r0), .val (.ref r1), .unset] [(.ref r1), (.int (4 : Int32))]))
  refine own_go (fun tg k => own_alen X0 hx hZ e0 A_r1_0 (g := (mkF m 3 #[.val (.ref r0), .val (.ref r1), .unset] [(.ref r1), (.int (4 : Int32))])) rfl rfl (hb hby d5_3) tg k) ?_
  show own_Fin _ _ _ _ _ _ _ (s₁.setTop (mkF m 4 #[.val (.ref r0), .val (.ref r1), .unset] [(.int (4 : Int32)), (.int (4 : Int32))]))
  refine own_go (fun _ k => XS.icmpNo X0.here hx rfl (hb hby d5_4) rfl (teq (by decide)).2 k) ?_
  show own_Fin _ _ _ _ _ _ _ (s₁.setTop (mkF m 7 #[.val (.ref r0), .val (.ref r1), .unset] []))
  refine own_go (fun _ k => XS.iconst X0.here hx rfl (hb hby d5_7) k) ?_
  show own_Fin _ _ _ _ _ _ _ (s₁.setTop (mkF m 8 #[.val (.ref r0), .val (.ref r1), .unset] [(.int (0 : Int32))]))
  refine own_go (fun _ k => XS.istoreN X0.here hx rfl (hb hby d5_8) rfl (l' := #[.val (.ref r0), .val (.ref r1), .val (.int (0 : Int32))]) rfl k) ?_
  show own_Fin _ _ _ _ _ _ _ (s₁.setTop (mkF m 9 #[.val (.ref r0), .val (.ref r1), .val (.int (0 : Int32))] []))
  refine own_go (fun _ k => XS.iloadN X0.here hx rfl (hb hby d5_9) rfl k) ?_
  show own_Fin _ _ _ _ _ _ _ (s₁.setTop (mkF m 10 #[.val (.ref r0), .val (.ref r1), .val (.int (0 : Int32))] [(.int (0 : Int32))]))
  refine own_go (fun _ k => XS.aloadN X0.here hx rfl (hb hby d5_10) rfl rfl k) ?_
  show own_Fin _ _ _ _ _ _ _ (s₁.setTop (mkF m 11 #[.val (.ref r0), .val (.ref r1), .val (.int (0 : Int32))] [(.ref r0), (.int (0 : Int32))]))
  refine own_go (fun tg k => own_alen X0 hx hZ e0 A_r0_0 (g := (mkF m 11 #[.val (.ref r0), .val (.ref r1), .val (.int (0 : Int32))] [(.ref r0), (.int (0 : Int32))])) rfl rfl (hb hby d5_11) tg k) ?_
  show own_Fin _ _ _ _ _ _ _ (s₁.setTop (mkF m 12 #[.val (.ref r0), .val (.ref r1), .val (.int (0 : Int32))] [(.int (4 : Int32)), (.int (0 : Int32))]))
  refine own_go (fun _ k => XS.icmpNo X0.here hx rfl (hb hby d5_12) rfl (tlt (by decide)).2.1 k) ?_
  show own_Fin _ _ _ _ _ _ _ (s₁.setTop (mkF m 15 #[.val (.ref r0), .val (.ref r1), .val (.int (0 : Int32))] []))
  refine own_go (fun _ k => XS.aloadN X0.here hx rfl (hb hby d5_15) rfl rfl k) ?_
  show own_Fin _ _ _ _ _ _ _ (s₁.setTop (mkF m 16 #[.val (.ref r0), .val (.ref r1), .val (.int (0 : Int32))] [(.ref r0)]))
  refine own_go (fun _ k => XS.iloadN X0.here hx rfl (hb hby d5_16) rfl k) ?_
  show own_Fin _ _ _ _ _ _ _ (s₁.setTop (mkF m 17 #[.val (.ref r0), .val (.ref r1), .val (.int (0 : Int32))] [(.int (0 : Int32)), (.ref r0)]))
  refine own_go (fun tg k => own_baload X0 hx hZ e0 A_r0_0 (j := (0 : Int32)) ⟨by decide, by decide⟩ (x := (g 0)) rfl (g := (mkF m 17 #[.val (.ref r0), .val (.ref r1), .val (.int (0 : Int32))] [(.int (0 : Int32)), (.ref r0)])) rfl rfl (hb hby d5_17) tg k) ?_
  show own_Fin _ _ _ _ _ _ _ (s₁.setTop (mkF m 18 #[.val (.ref r0), .val (.ref r1), .val (.int (0 : Int32))] [(.int (g 0))]))
  refine own_go (fun _ k => XS.aloadN X0.here hx rfl (hb hby d5_18) rfl rfl k) ?_
  show own_Fin _ _ _ _ _ _ _ (s₁.setTop (mkF m 19 #[.val (.ref r0), .val (.ref r1), .val (.int (0 : Int32))] [(.ref r1), (.int (g 0))]))
  refine own_go (fun _ k => XS.iloadN X0.here hx rfl (hb hby d5_19) rfl k) ?_
  show own_Fin _ _ _ _ _ _ _ (s₁.setTop (mkF m 20 #[.val (.ref r0), .val (.ref r1), .val (.int (0 : Int32))] [(.int (0 : Int32)), (.ref r1), (.int (g 0))]))
  refine own_go (fun tg k => own_baload X0 hx hZ e0 A_r1_0 (j := (0 : Int32)) ⟨by decide, by decide⟩ (x := (g 0)) rfl (g := (mkF m 20 #[.val (.ref r0), .val (.ref r1), .val (.int (0 : Int32))] [(.int (0 : Int32)), (.ref r1), (.int (g 0))])) rfl rfl (hb hby d5_20) tg k) ?_
  show own_Fin _ _ _ _ _ _ _ (s₁.setTop (mkF m 21 #[.val (.ref r0), .val (.ref r1), .val (.int (0 : Int32))] [(.int (g 0)), (.int (g 0))]))
  refine own_go (fun _ k => XS.icmpYes X0.here hx rfl (pc0 := 21) (pc' := 26) rfl (hb hby d5_21) rfl (teq rfl).1 (by decide) (by decide) k) ?_
  show own_Fin _ _ _ _ _ _ _ (s₁.setTop (mkF m 26 #[.val (.ref r0), .val (.ref r1), .val (.int (0 : Int32))] []))
  refine own_go (fun _ k => XS.iinc X0.here hx rfl (hb hby d5_26) rfl (l' := #[.val (.ref r0), .val (.ref r1), .val (.int (1 : Int32))]) rfl k) ?_
  show own_Fin _ _ _ _ _ _ _ (s₁.setTop (mkF m 29 #[.val (.ref r0), .val (.ref r1), .val (.int (1 : Int32))] []))
  refine own_go (fun _ k => XS.goto X0.here hx rfl (pc0 := 29) (pc' := 9) rfl (hb hby d5_29) (by decide) (by decide) k) ?_
  show own_Fin _ _ _ _ _ _ _ (s₁.setTop (mkF m 9 #[.val (.ref r0), .val (.ref r1), .val (.int (1 : Int32))] []))
  refine own_go (fun _ k => XS.iloadN X0.here hx rfl (hb hby d5_9) rfl k) ?_
  show own_Fin _ _ _ _ _ _ _ (s₁.setTop (mkF m 10 #[.val (.ref r0), .val (.ref r1), .val (.int (1 : Int32))] [(.int (1 : Int32))]))
  refine own_go (fun _ k => XS.aloadN X0.here hx rfl (hb hby d5_10) rfl rfl k) ?_
  show own_Fin _ _ _ _ _ _ _ (s₁.setTop (mkF m 11 #[.val (.ref r0), .val (.ref r1), .val (.int (1 : Int32))] [(.ref r0), (.int (1 : Int32))]))
  refine own_go (fun tg k => own_alen X0 hx hZ e0 A_r0_0 (g := (mkF m 11 #[.val (.ref r0), .val (.ref r1), .val (.int (1 : Int32))] [(.ref r0), (.int (1 : Int32))])) rfl rfl (hb hby d5_11) tg k) ?_
  show own_Fin _ _ _ _ _ _ _ (s₁.setTop (mkF m 12 #[.val (.ref r0), .val (.ref r1), .val (.int (1 : Int32))] [(.int (4 : Int32)), (.int (1 : Int32))]))
  refine own_go (fun _ k => XS.icmpNo X0.here hx rfl (hb hby d5_12) rfl (tlt (by decide)).2.1 k) ?_
  show own_Fin _ _ _ _ _ _ _ (s₁.setTop (mkF m 15 #[.val (.ref r0), .val (.ref r1), .val (.int (1 : Int32))] []))
  refine own_go (fun _ k => XS.aloadN X0.here hx rfl (hb hby d5_15) rfl rfl k) ?_
  show own_Fin _ _ _ _ _ _ _ (s₁.setTop (mkF m 16 #[.val (.ref r0), .val (.ref r1), .val (.int (1 : Int32))] [(.ref r0)]))
  refine own_go (fun _ k => XS.iloadN X0.here hx rfl (hb hby d5_16) rfl k) ?_
  show own_Fin _ _ _ _ _ _ _ (s₁.setTop (mkF m 17 #[.val (.ref r0), .val (.ref r1), .val (.int (1 : Int32))] [(.int (1 : Int32)), (.ref r0)]))
  refine own_go (fun tg k => own_baload X0 hx hZ e0 A_r0_0 (j := (1 : Int32)) ⟨by decide, by decide⟩ (x := (g 1)) rfl (g := (mkF m 17 #[.val (.ref r0), .val (.ref r1), .val (.int (1 : Int32))] [(.int (1 : Int32)), (.ref r0)])) rfl rfl (hb hby d5_17) tg k) ?_
  show own_Fin _ _ _ _ _ _ _ (s₁.setTop (mkF m 18 #[.val (.ref r0), .val (.ref r1), .val (.int (1 : Int32))] [(.int (g 1))]))
  refine own_go (fun _ k => XS.aloadN X0.here hx rfl (hb hby d5_18) rfl rfl k) ?_
  show own_Fin _ _ _ _ _ _ _ (s₁.setTop (mkF m 19 #[.val (.ref r0), .val (.ref r1), .val (.int (1 : Int32))] [(.ref r1), (.int (g 1))]))
  refine own_go (fun _ k => XS.iloadN X0.here hx rfl (hb hby d5_19) rfl k) ?_
  show own_Fin _ _ _ _ _ _ _ (s₁.setTop (mkF m 20 #[.val (.ref r0), .val (.ref r1), .val (.int (1 : Int32))] [(.int (1 : Int32)), (.ref r1), (.int (g 1))]))
  refine own_go (fun tg k => own_baload X0 hx hZ e0 A_r1_0 (j := (1 : Int32)) ⟨by decide, by decide⟩ (x := (g 1)) rfl (g := (mkF m 20 #[.val (.ref r0), .val (.ref r1), .val (.int (1 : Int32))] [(.int (1 : Int32)), (.ref r1), (.int (g 1))])) rfl rfl (hb hby d5_20) tg k) ?_
  show own_Fin _ _ _ _ _ _ _ (s₁.setTop (mkF m 21 #[.val (.ref r0), .val (.ref r1), .val (.int (1 : Int32))] [(.int (g 1)), (.int (g 1))]))
  refine own_go (fun _ k => XS.icmpYes X0.here hx rfl (pc0 := 21) (pc' := 26) rfl (hb hby d5_21) rfl (teq rfl).1 (by decide) (by decide) k) ?_
  show own_Fin _ _ _ _ _ _ _ (s₁.setTop (mkF m 26 #[.val (.ref r0), .val (.ref r1), .val (.int (1 : Int32))] []))
  refine own_go (fun _ k => XS.iinc X0.here hx rfl (hb hby d5_26) rfl (l' := #[.val (.ref r0), .val (.ref r1), .val (.int (2 : Int32))]) rfl k) ?_
  show own_Fin _ _ _ _ _ _ _ (s₁.setTop (mkF m 29 #[.val (.ref r0), .val (.ref r1), .val (.int (2 : Int32))] []))
  refine own_go (fun _ k => XS.goto X0.here hx rfl (pc0 := 29) (pc' := 9) rfl (hb hby d5_29) (by decide) (by decide) k) ?_
  show own_Fin _ _ _ _ _ _ _ (s₁.setTop (mkF m 9 #[.val (.ref r0), .val (.ref r1), .val (.int (2 : Int32))] []))
  refine own_go (fun _ k => XS.iloadN X0.here hx rfl (hb hby d5_9) rfl k) ?_
  show own_Fin _ _ _ _ _ _ _ (s₁.setTop (mkF m 10 #[.val (.ref r0), .val (.ref r1), .val (.int (2 : Int32))] [(.int (2 : Int32))]))
  refine own_go (fun _ k => XS.aloadN X0.here hx rfl (hb hby d5_10) rfl rfl k) ?_
  show own_Fin _ _ _ _ _ _ _ (s₁.setTop (mkF m 11 #[.val (.ref r0), .val (.ref r1), .val (.int (2 : Int32))] [(.ref r0), (.int (2 : Int32))]))
  refine own_go (fun tg k => own_alen X0 hx hZ e0 A_r0_0 (g := (mkF m 11 #[.val (.ref r0), .val (.ref r1), .val (.int (2 : Int32))] [(.ref r0), (.int (2 : Int32))])) rfl rfl (hb hby d5_11) tg k) ?_
  show own_Fin _ _ _ _ _ _ _ (s₁.setTop (mkF m 12 #[.val (.ref r0), .val (.ref r1), .val (.int (2 : Int32))] [(.int (4 : Int32)), (.int (2 : Int32))]))
  refine own_go (fun _ k => XS.icmpNo X0.here hx rfl (hb hby d5_12) rfl (tlt (by decide)).2.1 k) ?_
  show own_Fin _ _ _ _ _ _ _ (s₁.setTop (mkF m 15 #[.val (.ref r0), .val (.ref r1), .val (.int (2 : Int32))] []))
  refine own_go (fun _ k => XS.aloadN X0.here hx rfl (hb hby d5_15) rfl rfl k) ?_
  show own_Fin _ _ _ _ _ _ _ (s₁.setTop (mkF m 16 #[.val (.ref r0), .val (.ref r1), .val (.int (2 : Int32))] [(.ref r0)]))
  refine own_go (fun _ k => XS.iloadN X0.here hx rfl (hb hby d5_16) rfl k) ?_
  show own_Fin _ _ _ _ _ _ _ (s₁.setTop (mkF m 17 #[.val (.ref r0), .val (.ref r1), .val (.int (2 : Int32))] [(.int (2 : Int32)), (.ref r0)]))
  refine own_go (fun tg k => own_baload X0 hx hZ e0 A_r0_0 (j := (2 : Int32)) ⟨by decide, by decide⟩ (x := (g 2)) rfl (g := (mkF m 17 #[.val (.ref r0), .val (.ref r1), .val (.int (2 : Int32))] [(.int (2 : Int32)), (.ref r0)])) rfl rfl (hb hby d5_17) tg k) ?_
  show own_Fin _ _ _ _ _ _ _ (s₁.setTop (mkF m 18 #[.val (.ref r0), .val (.ref r1), .val (.int (2 : Int32))] [(.int (g 2))]))
  refine own_go (fun _ k => XS.aloadN X0.here hx rfl (hb hby d5_18) rfl rfl k) ?_
  show own_Fin _ _ _ _ _ _ _ (s₁.setTop (mkF m 19 #[.val (.ref r0), .val (.ref r1), .val (.int (2 : Int32))] [(.ref r1), (.int (g 2))]))
  refine own_go (fun _ k => XS.iloadN X0.here hx rfl (hb hby d5_19) rfl k) ?_
  show own_Fin _ _ _ _ _ _ _ (s₁.setTop (mkF m 20 #[.val (.ref r0), .val (.ref r1), .val (.int (2 : Int32))] [(.int (2 : Int32)), (.ref r1), (.int (g 2))]))
  refine own_go (fun tg k => own_baload X0 hx hZ e0 A_r1_0 (j := (2 : Int32)) ⟨by decide, by decide⟩ (x := (g 2)) rfl (g := (mkF m 20 #[.val (.ref r0), .val (.ref r1), .val (.int (2 : Int32))] [(.int (2 : Int32)), (.ref r1), (.int (g 2))])) rfl rfl (hb hby d5_20) tg k) ?_
  show own_Fin _ _ _ _ _ _ _ (s₁.setTop (mkF m 21 #[.val (.ref r0), .val (.ref r1), .val (.int (2 : Int32))] [(.int (g 2)), (.int (g 2))]))
  refine own_go (fun _ k => XS.icmpYes X0.here hx rfl (pc0 := 21) (pc' := 26) rfl (hb hby d5_21) rfl (teq rfl).1 (by decide) (by decide) k) ?_
  show own_Fin _ _ _ _ _ _ _ (s₁.setTop (mkF m 26 #[.val (.ref r0), .val (.ref r1), .val (.int (2 : Int32))] []))
  refine own_go (fun _ k => XS.iinc X0.here hx rfl (hb hby d5_26) rfl (l' := #[.val (.ref r0), .val (.ref r1), .val (.int (3 : Int32))]) rfl k) ?_
  show own_Fin _ _ _ _ _ _ _ (s₁.setTop (mkF m 29 #[.val (.ref r0), .val (.ref r1), .val (.int (3 : Int32))] []))
  refine own_go (fun _ k => XS.goto X0.here hx rfl (pc0 := 29) (pc' := 9) rfl (hb hby d5_29) (by decide) (by decide) k) ?_
  show own_Fin _ _ _ _ _ _ _ (s₁.setTop (mkF m 9 #[.val (.ref r0), .val (.ref r1), .val (.int (3 : Int32))] []))
  refine own_go (fun _ k => XS.iloadN X0.here hx rfl (hb hby d5_9) rfl k) ?_
  show own_Fin _ _ _ _ _ _ _ (s₁.setTop (mkF m 10 #[.val (.ref r0), .val (.ref r1), .val (.int (3 : Int32))] [(.int (3 : Int32))]))
  refine own_go (fun _ k => XS.aloadN X0.here hx rfl (hb hby d5_10) rfl rfl k) ?_
  show own_Fin _ _ _ _ _ _ _ (s₁.setTop (mkF m 11 #[.val (.ref r0), .val (.ref r1), .val (.int (3 : Int32))] [(.ref r0), (.int (3 : Int32))]))
  refine own_go (fun tg k => own_alen X0 hx hZ e0 A_r0_0 (g := (mkF m 11 #[.val (.ref r0), .val (.ref r1), .val (.int (3 : Int32))] [(.ref r0), (.int (3 : Int32))])) rfl rfl (hb hby d5_11) tg k) ?_
  show own_Fin _ _ _ _ _ _ _ (s₁.setTop (mkF m 12 #[.val (.ref r0), .val (.ref r1), .val (.int (3 : Int32))] [(.int (4 : Int32)), (.int (3 : Int32))]))
  refine own_go (fun _ k => XS.icmpNo X0.here hx rfl (hb hby d5_12) rfl (tlt (by decide)).2.1 k) ?_
  show own_Fin _ _ _ _ _ _ _ (s₁.setTop (mkF m 15 #[.val (.ref r0), .val (.ref r1), .val (.int (3 : Int32))] []))
  refine own_go (fun _ k => XS.aloadN X0.here hx rfl (hb hby d5_15) rfl rfl k) ?_
  show own_Fin _ _ _ _ _ _ _ (s₁.setTop (mkF m 16 #[.val (.ref r0), .val (.ref r1), .val (.int (3 : Int32))] [(.ref r0)]))
  refine own_go (fun _ k => XS.iloadN X0.here hx rfl (hb hby d5_16) rfl k) ?_
  show own_Fin _ _ _ _ _ _ _ (s₁.setTop (mkF m 17 #[.val (.ref r0), .val (.ref r1), .val (.int (3 : Int32))] [(.int (3 : Int32)), (.ref r0)]))
  refine own_go (fun tg k => own_baload X0 hx hZ e0 A_r0_0 (j := (3 : Int32)) ⟨by decide, by decide⟩ (x := (g 3)) rfl (g := (mkF m 17 #[.val (.ref r0), .val (.ref r1), .val (.int (3 : Int32))] [(.int (3 : Int32)), (.ref r0)])) rfl rfl (hb hby d5_17) tg k) ?_
  show own_Fin _ _ _ _ _ _ _ (s₁.setTop (mkF m 18 #[.val (.ref r0), .val (.ref r1), .val (.int (3 : Int32))] [(.int (g 3))]))
  refine own_go (fun _ k => XS.aloadN X0.here hx rfl (hb hby d5_18) rfl rfl k) ?_
  show own_Fin _ _ _ _ _ _ _ (s₁.setTop (mkF m 19 #[.val (.ref r0), .val (.ref r1), .val (.int (3 : Int32))] [(.ref r1), (.int (g 3))]))
  refine own_go (fun _ k => XS.iloadN X0.here hx rfl (hb hby d5_19) rfl k) ?_
  show own_Fin _ _ _ _ _ _ _ (s₁.setTop (mkF m 20 #[.val (.ref r0), .val (.ref r1), .val (.int (3 : Int32))] [(.int (3 : Int32)), (.ref r1), (.int (g 3))]))
  refine own_go (fun tg k => own_baload X0 hx hZ e0 A_r1_0 (j := (3 : Int32)) ⟨by decide, by decide⟩ (x := (g 3)) rfl (g := (mkF m 20 #[.val (.ref r0), .val (.ref r1), .val (.int (3 : Int32))] [(.int (3 : Int32)), (.ref r1), (.int (g 3))])) rfl rfl (hb hby d5_20) tg k) ?_
  show own_Fin _ _ _ _ _ _ _ (s₁.setTop (mkF m 21 #[.val (.ref r0), .val (.ref r1), .val (.int (3 : Int32))] [(.int (g 3)), (.int (g 3))]))
  refine own_go (fun _ k => XS.icmpYes X0.here hx rfl (pc0 := 21) (pc' := 26) rfl (hb hby d5_21) rfl (teq rfl).1 (by decide) (by decide) k) ?_
  show own_Fin _ _ _ _ _ _ _ (s₁.setTop (mkF m 26 #[.val (.ref r0), .val (.ref r1), .val (.int (3 : Int32))] []))
  refine own_go (fun _ k => XS.iinc X0.here hx rfl (hb hby d5_26) rfl (l' := #[.val (.ref r0), .val (.ref r1), .val (.int (4 : Int32))]) rfl k) ?_
  show own_Fin _ _ _ _ _ _ _ (s₁.setTop (mkF m 29 #[.val (.ref r0), .val (.ref r1), .val (.int (4 : Int32))] []))
  refine own_go (fun _ k => XS.goto X0.here hx rfl (pc0 := 29) (pc' := 9) rfl (hb hby d5_29) (by decide) (by decide) k) ?_
  show own_Fin _ _ _ _ _ _ _ (s₁.setTop (mkF m 9 #[.val (.ref r0), .val (.ref r1), .val (.int (4 : Int32))] []))
  refine own_go (fun _ k => XS.iloadN X0.here hx rfl (hb hby d5_9) rfl k) ?_
  show own_Fin _ _ _ _ _ _ _ (s₁.setTop (mkF m 10 #[.val (.ref r0), .val (.ref r1), .val (.int (4 : Int32))] [(.int (4 : Int32))]))
  refine own_go (fun _ k => XS.aloadN X0.here hx rfl (hb hby d5_10) rfl rfl k) ?_
  show own_Fin _ _ _ _ _ _ _ (s₁.setTop (mkF m 11 #[.val (.ref r0), .val (.ref r1), .val (.int (4 : Int32))] [(.ref r0), (.int (4 : Int32))]))
  refine own_go (fun tg k => own_alen X0 hx hZ e0 A_r0_0 (g := (mkF m 11 #[.val (.ref r0), .val (.ref r1), .val (.int (4 : Int32))] [(.ref r0), (.int (4 : Int32))])) rfl rfl (hb hby d5_11) tg k) ?_
  show own_Fin _ _ _ _ _ _ _ (s₁.setTop (mkF m 12 #[.val (.ref r0), .val (.ref r1), .val (.int (4 : Int32))] [(.int (4 : Int32)), (.int (4 : Int32))]))
  refine own_go (fun _ k => XS.icmpYes X0.here hx rfl (pc0 := 12) (pc' := 32) rfl (hb hby d5_12) rfl (flt (by decide)).2.1 (by decide) (by decide) k) ?_
  show own_Fin _ _ _ _ _ _ _ (s₁.setTop (mkF m 32 #[.val (.ref r0), .val (.ref r1), .val (.int (4 : Int32))] []))
  refine own_go (fun _ k => XS.iconst X0.here hx rfl (hb hby d5_32) k) ?_
  show own_Fin _ _ _ _ _ _ _ (s₁.setTop (mkF m 33 #[.val (.ref r0), .val (.ref r1), .val (.int (4 : Int32))] [(.int (1 : Int32))]))
  refine own_ret X0 hx hlk Bd.returns rfl (Or.inl ⟨rfl, by simp, _, rfl⟩) (hb hby d5_33) (Nat.le_of_ble_eq_true rfl) (Nat.le_of_ble_eq_true rfl) ?_
  refine ⟨?_, N0, e0⟩
  · rfl
def rm3e4_room : Room := { frames := 1, cells := 0, slots := 0, locals := 14 }
def Qrm3e4 (Z : State) (r0 : Addr) (r1 : Addr) (v0 : Addr) (v1 : Addr) (cs : Int32) (g : Nat → Int32) (h0 : Heap) (n0 : Nat) (v : Option Value) (h : Heap) (L : List Loc) : Prop := v = some (.int (1 : Int32)) ∧ Fr n0 L ∧ h = h0
set_option maxRecDepth 65536 in
set_option maxHeartbeats 40000000 in
theorem rm3e4 (l : Launch) (Z : State) (a0 : Array Value) (hw : ∀ d ∈ tables_1, d.before a0 Z = true) (ws : List Jvm.Cond) (r0 : Addr) (r1 : Addr) (v0 : Addr) (v1 : Addr) (cs : Int32) (g : Nat → Int32) (h0 : Heap) (n0 : Nat) (Z0 : n0 ≤ h0.size) (E_r0_0 : Exa Z h0 r0 "java/lang/String") (F_coder_r0_0 : Fld Z h0 r0 "java/lang/String" "coder" "B" (.int (0 : Int32))) (F_value_r0_0 : Fld Z h0 r0 "java/lang/String" "value" "[B" (.ref v0)) (A_v0_0 : own_Arf Z h0 v0 .byte (4 : Int32) (fun i => .int (g i))) (E_r1_0 : Exa Z h0 r1 "java/lang/String") (F_coder_r1_0 : Fld Z h0 r1 "java/lang/String" "coder" "B" (.int (0 : Int32))) (F_value_r1_0 : Fld Z h0 r1 "java/lang/String" "value" "[B" (.ref v1)) (A_v1_0 : own_Arf Z h0 v1 .byte (4 : Int32) (fun i => .int (g i))) (S_COMPACT_STRINGS_0 : Sta Z h0 "java/lang/String" "COMPACT_STRINGS" "Z" (.int cs)) (hcs : ¬ (cs = (0 : Int32))) :
    MetFree l (⟨"java/lang/String", "equals", "(Ljava/lang/Object;)Z"⟩ : MethodName) (head1 (Jvm.Cond.code (⟨"java/lang/String", "equals", "(Ljava/lang/Object;)Z"⟩ : MethodName) jdk_42_method_66_code 3 (some .boolean) :: ws) rm3e4_room) (fun a U => a = #[(.ref r0), (.ref r1)] ∧ Z.Warmed39 U.vm ∧ U.heap = h0) (fun _ _ _ _ _ => True) (fun _ U o U' => ∃ v L, o = .returned v ∧ Qrm3e4 Z r0 r1 v0 v1 cs g h0 n0 v U'.heap L ∧ FrameEnd U o U' L rm3e4_room.cells rm3e4_room.slots) := by
  refine MetFree.of_bodySF (plainFor_of_name pn_3) hisR ?_
  intro p e s m args below meth c s₁ Bd hml0 hP hK
  obtain ⟨rfl, hZ, hh⟩ := hP
  have hx := Bd.exec
  have hby := Bd.bytes
  have hml : c.maxLocals = 3 := hml0
  have hown : s.vm.findClass "java/lang/String" = some m.cls := findClass_of_methodNamed Bd.named
  have hnm := (name_of_methodNamed Bd.named Bd.method).1
  have hlk : meth.locks = false := BodyLoose.notSynchronized Bd
  have X0 : Stand p l e rm3e4_room s m #[(.ref r0), (.ref r1)] below meth c s₁ [] 0 0 := Stand.of_body Bd
  have e0 : s₁.heap = h0 := by rw [← hh, Bd.state]; rfl
  have N0 := Fr.nil n0
  show own_Fin p.tables e below s (Qrm3e4 Z r0 r1 v0 v1 cs g h0 n0) rm3e4_room.cells rm3e4_room.slots (s₁.setTop (entryFrame m #[(.ref r0), (.ref r1)] 3))
  rw [ef_3]
  show own_Fin _ _ _ _ _ _ _ (s₁.setTop (mkF m 0 #[.val (.ref r0), .val (.ref r1), .unset] []))
  refine own_go (fun _ k => XS.aloadN X0.here hx rfl (hb hby d3_0) rfl rfl k) ?_
  show own_Fin _ _ _ _ _ _ _ (s₁.setTop (mkF m 1 #[.val (.ref r0), .val (.ref r1), .unset] [(.ref r0)]))
  refine own_go (fun _ k => XS.aloadN X0.here hx rfl (hb hby d3_1) rfl rfl k) ?_
  show own_Fin _ _ _ _ _ _ _ (s₁.setTop (mkF m 2 #[.val (.ref r0), .val (.ref r1), .unset] [(.ref r1), (.ref r0)]))
  by_cases hc1 : r0 = r1
  · refine own_go (fun _ k => Jvm.RoadKit.acmp X0 hx rfl (x := (.ref r0)) (y := (.ref r1)) rfl rfl (pc0 := 2) (pc' := 5) (same := true) rfl (hb hby d3_2) rfl (decide_eq_true (congrArg Value.ref hc1)) (by decide) (by decide) k) ?_
    show own_Fin _ _ _ _ _ _ _ (s₁.setTop (mkF m 5 #[.val (.ref r0), .val (.ref r1), .unset] []))
    refine own_go (fun _ k => XS.iconst X0.here hx rfl (hb hby d3_5) k) ?_
    show own_Fin _ _ _ _ _ _ _ (s₁.setTop (mkF m 6 #[.val (.ref r0), .val (.ref r1), .unset] [(.int (1 : Int32))]))
    refine own_ret X0 hx hlk Bd.returns rfl (Or.inl ⟨rfl, by simp, _, rfl⟩) (hb hby d3_6) (Nat.le_of_ble_eq_true rfl) (Nat.le_of_ble_eq_true rfl) ?_
    refine ⟨?_, N0, e0⟩
    · rfl
  · refine own_go (fun _ k => Jvm.RoadKit.acmp X0 hx rfl (x := (.ref r0)) (y := (.ref r1)) rfl rfl (pc0 := 2) (pc' := 7) (same := false) rfl (hb hby d3_2) rfl (decide_eq_false (fun q => hc1 (Value.ref.inj q))) (by decide) (by decide) k) ?_
    show own_Fin _ _ _ _ _ _ _ (s₁.setTop (mkF m 7 #[.val (.ref r0), .val (.ref r1), .unset] []))
    refine own_go (fun _ k => XS.aloadN X0.here hx rfl (hb hby d3_7) rfl rfl k) ?_
    show own_Fin _ _ _ _ _ _ _ (s₁.setTop (mkF m 8 #[.val (.ref r0), .val (.ref r1), .unset] [(.ref r1)]))
    obtain ⟨T2, X2, e2, st2⟩ := instY X0 hx hZ hown (hw _ (List.mem_of_getElem? (i := 37) rfl)) e0 (Ins.self E_r1_0) (g := (mkF m 8 #[.val (.ref r0), .val (.ref r1), .unset] [(.ref r1)])) rfl rfl (hb hby d3_8)
    refine own_go (fun tg k => st2 tg k) ?_
    show own_Fin _ _ _ _ _ _ _ (T2.setTop (mkF m 11 #[.val (.ref r0), .val (.ref r1), .unset] [(.int (1 : Int32))]))
    refine own_go (fun _ k => XS.ifNo X2.here hx rfl (hb hby d3_11) rfl ((if0 _ _).trans (feq (by decide)).1) k) ?_
    show own_Fin _ _ _ _ _ _ _ (T2.setTop (mkF m 14 #[.val (.ref r0), .val (.ref r1), .unset] []))
    refine own_go (fun _ k => XS.aloadN X2.here hx rfl (hb hby d3_14) rfl rfl k) ?_
    show own_Fin _ _ _ _ _ _ _ (T2.setTop (mkF m 15 #[.val (.ref r0), .val (.ref r1), .unset] [(.ref r1)]))
    obtain ⟨T3, X3, e3, st3⟩ := castY X2 hx hZ hown (hw _ (List.mem_of_getElem? (i := 37) rfl)) e2 (Ins.self E_r1_0) (g := (mkF m 15 #[.val (.ref r0), .val (.ref r1), .unset] [(.ref r1)])) rfl rfl (hb hby d3_15)
    refine own_go (fun tg k => st3 tg k) ?_
    show own_Fin _ _ _ _ _ _ _ (T3.setTop (mkF m 18 #[.val (.ref r0), .val (.ref r1), .unset] [(.ref r1)]))
    refine own_go (fun _ k => XS.astoreN X3.here hx rfl (hb hby d3_18) rfl rfl (l' := #[.val (.ref r0), .val (.ref r1), .val (.ref r1)]) rfl k) ?_
    show own_Fin _ _ _ _ _ _ _ (T3.setTop (mkF m 19 #[.val (.ref r0), .val (.ref r1), .val (.ref r1)] []))
    obtain ⟨T4, X4, e4, st4⟩ := getS2 X3 hx hZ hown (host := "") (Or.inl (hw _ (List.mem_of_getElem? (i := 39) rfl))) Via.refl e3 S_COMPACT_STRINGS_0 (g := (mkF m 19 #[.val (.ref r0), .val (.ref r1), .val (.ref r1)] [])) rfl (hb hby d3_19)
    refine own_go (fun tg k => st4 tg k) ?_
    show own_Fin _ _ _ _ _ _ _ (T4.setTop (mkF m 22 #[.val (.ref r0), .val (.ref r1), .val (.ref r1)] [(.int cs)]))
    have hc22 : ¬ (cs = (0 : Int32)) := hcs
    refine own_go (fun _ k => XS.ifNo X4.here hx rfl (hb hby d3_22) rfl ((if0 _ _).trans (feq hc22).1) k) ?_
    show own_Fin _ _ _ _ _ _ _ (T4.setTop (mkF m 25 #[.val (.ref r0), .val (.ref r1), .val (.ref r1)] []))
    refine own_go (fun _ k => XS.aloadN X4.here hx rfl (hb hby d3_25) rfl rfl k) ?_
    show own_Fin _ _ _ _ _ _ _ (T4.setTop (mkF m 26 #[.val (.ref r0), .val (.ref r1), .val (.ref r1)] [(.ref r0)]))
    obtain ⟨T5, X5, e5, st5⟩ := getF X4 hx hZ hown (host := "") (Or.inl (hw _ (List.mem_of_getElem? (i := 40) rfl))) Via.refl e4 F_coder_r0_0 (g := (mkF m 26 #[.val (.ref r0), .val (.ref r1), .val (.ref r1)] [(.ref r0)])) rfl rfl (hb hby d3_26)
    refine own_go (fun tg k => st5 tg k) ?_
    show own_Fin _ _ _ _ _ _ _ (T5.setTop (mkF m 29 #[.val (.ref r0), .val (.ref r1), .val (.ref r1)] [(.int (0 : Int32))]))
    refine own_go (fun _ k => XS.aloadN X5.here hx rfl (hb hby d3_29) rfl rfl k) ?_
    show own_Fin _ _ _ _ _ _ _ (T5.setTop (mkF m 30 #[.val (.ref r0), .val (.ref r1), .val (.ref r1)] [(.ref r1), (.int (0 : Int32))]))
    obtain ⟨T6, X6, e6, st6⟩ := getF X5 hx hZ hown (host := "") (Or.inl (hw _ (List.mem_of_getElem? (i := 40) rfl))) Via.refl e5 F_coder_r1_0 (g := (mkF m 30 #[.val (.ref r0), .val (.ref r1), .val (.ref r1)] [(.ref r1), (.int (0 : Int32))])) rfl rfl (hb hby d3_30)
    refine own_go (fun tg k => st6 tg k) ?_
    show own_Fin _ _ _ _ _ _ _ (T6.setTop (mkF m 33 #[.val (.ref r0), .val (.ref r1), .val (.ref r1)] [(.int (0 : Int32)), (.int (0 : Int32))]))
    refine own_go (fun _ k => XS.icmpNo X6.here hx rfl (hb hby d3_33) rfl (teq (by decide)).2 k) ?_
    show own_Fin _ _ _ _ _ _ _ (T6.setTop (mkF m 36 #[.val (.ref r0), .val (.ref r1), .val (.ref r1)] []))
    refine own_go (fun _ k => XS.aloadN X6.here hx rfl (hb hby d3_36) rfl rfl k) ?_
    show own_Fin _ _ _ _ _ _ _ (T6.setTop (mkF m 37 #[.val (.ref r0), .val (.ref r1), .val (.ref r1)] [(.ref r0)]))
    obtain ⟨T7, X7, e7, st7⟩ := getF X6 hx hZ hown (host := "") (Or.inl (hw _ (List.mem_of_getElem? (i := 41) rfl))) Via.refl e6 F_value_r0_0 (g := (mkF m 37 #[.val (.ref r0), .val (.ref r1), .val (.ref r1)] [(.ref r0)])) rfl rfl (hb hby d3_37)
    refine own_go (fun tg k => st7 tg k) ?_
    show own_Fin _ _ _ _ _ _ _ (T7.setTop (mkF m 40 #[.val (.ref r0), .val (.ref r1), .val (.ref r1)] [(.ref v0)]))
    refine own_go (fun _ k => XS.aloadN X7.here hx rfl (hb hby d3_40) rfl rfl k) ?_
    show own_Fin _ _ _ _ _ _ _ (T7.setTop (mkF m 41 #[.val (.ref r0), .val (.ref r1), .val (.ref r1)] [(.ref r1), (.ref v0)]))
    obtain ⟨T8, X8, e8, st8⟩ := getF X7 hx hZ hown (host := "") (Or.inl (hw _ (List.mem_of_getElem? (i := 41) rfl))) Via.refl e7 F_value_r1_0 (g := (mkF m 41 #[.val (.ref r0), .val (.ref r1), .val (.ref r1)] [(.ref r1), (.ref v0)])) rfl rfl (hb hby d3_41)
    refine own_go (fun tg k => st8 tg k) ?_
    show own_Fin _ _ _ _ _ _ _ (T8.setTop (mkF m 44 #[.val (.ref r0), .val (.ref r1), .val (.ref r1)] [(.ref v1), (.ref v0)]))
    obtain ⟨_, _, ⟨T9, L9, k9, n9⟩, -, X9, ⟨Lc9, hQ9, l9, y9, z9⟩, st9⟩ := Jvm.LawKit.callS X8 hx (y := (⟨"java/lang/StringLatin1", "equals", "([B[B)Z"⟩ : MethodName)) hown (mvT hZ (hw _ (List.mem_of_getElem? (i := 42) rfl))) (mvT hZ (hw _ (List.mem_of_getElem? (i := 43) rfl))) (mvT hZ (hw _ (List.mem_of_getElem? (i := 44) rfl))) (mvT hZ (hw _ (List.mem_of_getElem? (i := 45) rfl))) (by decide) (backOf (W := 0) (rm5e4 l Z a0 hw [] v0 v1 g h0 n0 Z0 A_v0_0 A_v1_0) hZ (hw _ (List.mem_of_getElem? (i := 45) rfl)) (hw _ (List.mem_of_getElem? (i := 44) rfl)) (by decide) (by decide)) (g := (mkF m 44 #[.val (.ref r0), .val (.ref r1), .val (.ref r1)] [(.ref v1), (.ref v0)])) rfl (by rw [hml]; rfl) (argsL := [(.ref v0), (.ref v1)]) (rest := []) (lenOf own_pd24 rfl) rfl (by show 2 * 0 + _ ≤ _; exact Nat.le_of_eq rfl) (hb hby d3_44) (fun _ _ => ⟨rfl, e8, (by decide : 0 + 0 ≤ _), (by decide : 0 + 0 ≤ _)⟩)
    dsimp only [Pt.U, Pt.locs, Pt.cells, Pt.slots] at X9 l9 y9 z9 st9 hQ9
    replace y9 : 0 = k9 := y9.symm
    replace z9 : 0 = n9 := z9.symm
    subst y9 z9
    obtain ⟨rfl, N9q, e9⟩ := hQ9
    have N9 : Fr n0 L9 := by rw [l9]; exact Fr.app N0 N9q
    refine own_go (fun tg k => st9 tg k) ?_
    show own_Fin _ _ _ _ _ _ _ (T9.setTop (mkF m 47 #[.val (.ref r0), .val (.ref r1), .val (.ref r1)] [(.int (1 : Int32))]))
    refine own_go (fun _ k => XS.ifNo X9.here hx rfl (hb hby d3_47) rfl ((if0 _ _).trans (feq (by decide)).1) k) ?_
    show own_Fin _ _ _ _ _ _ _ (T9.setTop (mkF m 50 #[.val (.ref r0), .val (.ref r1), .val (.ref r1)] []))
    refine own_go (fun _ k => XS.iconst X9.here hx rfl (hb hby d3_50) k) ?_
    show own_Fin _ _ _ _ _ _ _ (T9.setTop (mkF m 51 #[.val (.ref r0), .val (.ref r1), .val (.ref r1)] [(.int (1 : Int32))]))
    refine own_go (fun _ k => XS.goto X9.here hx rfl (pc0 := 51) (pc' := 55) rfl (hb hby d3_51) (by decide) (by decide) k) ?_
    show own_Fin _ _ _ _ _ _ _ (T9.setTop (mkF m 55 #[.val (.ref r0), .val (.ref r1), .val (.ref r1)] [(.int (1 : Int32))]))
    refine own_ret X9 hx hlk Bd.returns rfl (Or.inl ⟨rfl, by simp, _, rfl⟩) (hb hby d3_55) (Nat.le_of_ble_eq_true rfl) (Nat.le_of_ble_eq_true rfl) ?_
    refine ⟨?_, N9, e9⟩
    · rfl
theorem d5_34 : decode jdk_43_method_13_code 34 = .ok (.iconst 0, 1) := by decide +kernel
theorem d5_35 : decode jdk_43_method_13_code 35 = .ok (.ireturn, 1) := by decide +kernel
def rm5n_room : Room := { frames := 0, cells := 0, slots := 0, locals := 0 }
def Qrm5n (Z : State) (r0 : Addr) (r1 : Addr) (g : Nat → Int32) (g2 : Nat → Int32) (h0 : Heap) (n0 : Nat) (v : Option Value) (h : Heap) (L : List Loc) : Prop := v = some (.int (0 : Int32)) ∧ Fr n0 L ∧ h = h0
set_option maxRecDepth 65536 in
set_option maxHeartbeats 40000000 in
theorem rm5n (l : Launch) (Z : State) (a0 : Array Value) (hw : ∀ d ∈ tables_1, d.before a0 Z = true) (ws : List Jvm.Cond) (r0 : Addr) (r1 : Addr) (g : Nat → Int32) (g2 : Nat → Int32) (h0 : Heap) (n0 : Nat) (Z0 : n0 ≤ h0.size) (A_r0_0 : own_Arf Z h0 r0 .byte (4 : Int32) (fun i => .int (g i))) (A_r1_0 : own_Arf Z h0 r1 .byte (3 : Int32) (fun i => .int (g2 i))) :
    MetFree l (⟨"java/lang/StringLatin1", "equals", "([B[B)Z"⟩ : MethodName) (head1 (Jvm.Cond.code (⟨"java/lang/StringLatin1", "equals", "([B[B)Z"⟩ : MethodName) jdk_43_method_13_code 3 (some .boolean) :: ws) rm5n_room) (fun a U => a = #[(.ref r0), (.ref r1)] ∧ Z.Warmed39 U.vm ∧ U.heap = h0) (fun _ _ _ _ _ => True) (fun _ U o U' => ∃ v L, o = .returned v ∧ Qrm5n Z r0 r1 g g2 h0 n0 v U'.heap L ∧ FrameEnd U o U' L rm5n_room.cells rm5n_room.slots) := by
  refine MetFree.of_bodySF (plainFor_of_name pn_5) hisR ?_
  intro p e s m args below meth c s₁ Bd hml0 hP hK
  obtain ⟨rfl, hZ, hh⟩ := hP
  have hx := Bd.exec
  have hby := Bd.bytes
  have hml : c.maxLocals = 3 := hml0
  have hown : s.vm.findClass "java/lang/StringLatin1" = some m.cls := findClass_of_methodNamed Bd.named
  have hnm := (name_of_methodNamed Bd.named Bd.method).1
  have hlk : meth.locks = false := BodyLoose.notSynchronized Bd
  have X0 : Stand p l e rm5n_room s m #[(.ref r0), (.ref r1)] below meth c s₁ [] 0 0 := Stand.of_body Bd
  have e0 : s₁.heap = h0 := by rw [← hh, Bd.state]; rfl
  have N0 := Fr.nil n0
  show own_Fin p.tables e below s (Qrm5n Z r0 r1 g g2 h0 n0) rm5n_room.cells rm5n_room.slots (s₁.setTop (entryFrame m #[(.ref r0), (.ref r1)] 3))
  rw [ef_5]
  show own_Fin _ _ _ _ _ _ _ (s₁.setTop (mkF m 0 #[.val (.ref r0), .val (.ref r1), .unset] []))
  refine own_go (fun _ k => XS.aloadN X0.here hx rfl (hb hby d5_0) rfl rfl k) ?_
  show own_Fin _ _ _ _ _ _ _ (s₁.setTop (mkF m 1 #[.val (.ref r0), .val (.ref r1), .unset] [(.ref r0)]))
  refine own_go (fun tg k => own_alen X0 hx hZ e0 A_r0_0 (g := (mkF m 1 #[.val (.ref r0), .val (.ref r1), .unset] [(.ref r0)])) rfl rfl (hb hby d5_1) tg k) ?_
  show own_Fin _ _ _ _ _ _ _ (s₁.setTop (mkF m 2 #[.val (.ref r0), .val (.ref r1), .unset] [(.int (4 : Int32))]))
  refine own_go (fun _ k => XS.aloadN X0.here hx rfl (hb hby d5_2) rfl rfl k) ?_
  show own_Fin _ _ _ _ _ _ _ (s₁.setTop (mkF m 3 #[.val (.ref r0), .val (.ref r1), .unset] [(.ref r1), (.int (4 : Int32))]))
  refine own_go (fun tg k => own_alen X0 hx hZ e0 A_r1_0 (g := (mkF m 3 #[.val (.ref r0), .val (.ref r1), .unset] [(.ref r1), (.int (4 : Int32))])) rfl rfl (hb hby d5_3) tg k) ?_
  show own_Fin _ _ _ _ _ _ _ (s₁.setTop (mkF m 4 #[.val (.ref r0), .val (.ref r1), .unset] [(.int (3 : Int32)), (.int (4 : Int32))]))
  refine own_go (fun _ k => XS.icmpYes X0.here hx rfl (pc0 := 4) (pc' := 34) rfl (hb hby d5_4) rfl (feq (by decide)).2 (by decide) (by decide) k) ?_
  show own_Fin _ _ _ _ _ _ _ (s₁.setTop (mkF m 34 #[.val (.ref r0), .val (.ref r1), .unset] []))
  refine own_go (fun _ k => XS.iconst X0.here hx rfl (hb hby d5_34) k) ?_
  show own_Fin _ _ _ _ _ _ _ (s₁.setTop (mkF m 35 #[.val (.ref r0), .val (.ref r1), .unset] [(.int (0 : Int32))]))
  refine own_ret X0 hx hlk Bd.returns rfl (Or.inl ⟨rfl, by simp, _, rfl⟩) (hb hby d5_35) (Nat.le_of_ble_eq_true rfl) (Nat.le_of_ble_eq_true rfl) ?_
  refine ⟨?_, N0, e0⟩
  · rfl
theorem d3_54 : decode jdk_42_method_66_code 54 = .ok (.iconst 0, 1) := by decide +kernel
def rm3n_room : Room := { frames := 1, cells := 0, slots := 0, locals := 14 }
def Qrm3n (Z : State) (r0 : Addr) (r1 : Addr) (v0 : Addr) (v1 : Addr) (cs : Int32) (g : Nat → Int32) (g2 : Nat → Int32) (h0 : Heap) (n0 : Nat) (v : Option Value) (h : Heap) (L : List Loc) : Prop := v = some (.int (0 : Int32)) ∧ Fr n0 L ∧ h = h0
set_option maxRecDepth 65536 in
set_option maxHeartbeats 40000000 in
theorem rm3n (l : Launch) (Z : State) (a0 : Array Value) (hw : ∀ d ∈ tables_1, d.before a0 Z = true) (ws : List Jvm.Cond) (r0 : Addr) (r1 : Addr) (v0 : Addr) (v1 : Addr) (cs : Int32) (g : Nat → Int32) (g2 : Nat → Int32) (h0 : Heap) (n0 : Nat) (Z0 : n0 ≤ h0.size) (E_r0_0 : Exa Z h0 r0 "java/lang/String") (F_coder_r0_0 : Fld Z h0 r0 "java/lang/String" "coder" "B" (.int (0 : Int32))) (F_value_r0_0 : Fld Z h0 r0 "java/lang/String" "value" "[B" (.ref v0)) (A_v0_0 : own_Arf Z h0 v0 .byte (4 : Int32) (fun i => .int (g i))) (E_r1_0 : Exa Z h0 r1 "java/lang/String") (F_coder_r1_0 : Fld Z h0 r1 "java/lang/String" "coder" "B" (.int (0 : Int32))) (F_value_r1_0 : Fld Z h0 r1 "java/lang/String" "value" "[B" (.ref v1)) (A_v1_0 : own_Arf Z h0 v1 .byte (3 : Int32) (fun i => .int (g2 i))) (S_COMPACT_STRINGS_0 : Sta Z h0 "java/lang/String" "COMPACT_STRINGS" "Z" (.int cs)) (hcs : ¬ (cs = (0 : Int32))) (ne_r0_r1 : r0 ≠ r1) :
    MetFree l (⟨"java/lang/String", "equals", "(Ljava/lang/Object;)Z"⟩ : MethodName) (head1 (Jvm.Cond.code (⟨"java/lang/String", "equals", "(Ljava/lang/Object;)Z"⟩ : MethodName) jdk_42_method_66_code 3 (some .boolean) :: ws) rm3n_room) (fun a U => a = #[(.ref r0), (.ref r1)] ∧ Z.Warmed39 U.vm ∧ U.heap = h0) (fun _ _ _ _ _ => True) (fun _ U o U' => ∃ v L, o = .returned v ∧ Qrm3n Z r0 r1 v0 v1 cs g g2 h0 n0 v U'.heap L ∧ FrameEnd U o U' L rm3n_room.cells rm3n_room.slots) := by
  refine MetFree.of_bodySF (plainFor_of_name pn_3) hisR ?_
  intro p e s m args below meth c s₁ Bd hml0 hP hK
  obtain ⟨rfl, hZ, hh⟩ := hP
  have hx := Bd.exec
  have hby := Bd.bytes
  have hml : c.maxLocals = 3 := hml0
  have hown : s.vm.findClass "java/lang/String" = some m.cls := findClass_of_methodNamed Bd.named
  have hnm := (name_of_methodNamed Bd.named Bd.method).1
  have hlk : meth.locks = false := BodyLoose.notSynchronized Bd
  have X0 : Stand p l e rm3n_room s m #[(.ref r0), (.ref r1)] below meth c s₁ [] 0 0 := Stand.of_body Bd
  have e0 : s₁.heap = h0 := by rw [← hh, Bd.state]; rfl
  have N0 := Fr.nil n0
  show own_Fin p.tables e below s (Qrm3n Z r0 r1 v0 v1 cs g g2 h0 n0) rm3n_room.cells rm3n_room.slots (s₁.setTop (entryFrame m #[(.ref r0), (.ref r1)] 3))
  rw [ef_3]
  show own_Fin _ _ _ _ _ _ _ (s₁.setTop (mkF m 0 #[.val (.ref r0), .val (.ref r1), .unset] []))
  refine own_go (fun _ k => XS.aloadN X0.here hx rfl (hb hby d3_0) rfl rfl k) ?_
  show own_Fin _ _ _ _ _ _ _ (s₁.setTop (mkF m 1 #[.val (.ref r0), .val (.ref r1), .unset] [(.ref r0)]))
  refine own_go (fun _ k => XS.aloadN X0.here hx rfl (hb hby d3_1) rfl rfl k) ?_
  show own_Fin _ _ _ _ _ _ _ (s₁.setTop (mkF m 2 #[.val (.ref r0), .val (.ref r1), .unset] [(.ref r1), (.ref r0)]))
  refine own_go (fun _ k => Jvm.RoadKit.acmp X0 hx rfl (x := (.ref r0)) (y := (.ref r1)) rfl rfl (pc0 := 2) (pc' := 7) (same := false) rfl (hb hby d3_2) rfl (decide_eq_false (fun q => ne_r0_r1 (Value.ref.inj q))) (by decide) (by decide) k) ?_
  show own_Fin _ _ _ _ _ _ _ (s₁.setTop (mkF m 7 #[.val (.ref r0), .val (.ref r1), .unset] []))
  refine own_go (fun _ k => XS.aloadN X0.here hx rfl (hb hby d3_7) rfl rfl k) ?_
  show own_Fin _ _ _ _ _ _ _ (s₁.setTop (mkF m 8 #[.val (.ref r0), .val (.ref r1), .unset] [(.ref r1)]))
  obtain ⟨T1, X1, e1, st1⟩ := instY X0 hx hZ hown (hw _ (List.mem_of_getElem? (i := 37) rfl)) e0 (Ins.self E_r1_0) (g := (mkF m 8 #[.val (.ref r0), .val (.ref r1), .unset] [(.ref r1)])) rfl rfl (hb hby d3_8)
  refine own_go (fun tg k => st1 tg k) ?_
  show own_Fin _ _ _ _ _ _ _ (T1.setTop (mkF m 11 #[.val (.ref r0), .val (.ref r1), .unset] [(.int (1 : Int32))]))
  refine own_go (fun _ k => XS.ifNo X1.here hx rfl (hb hby d3_11) rfl ((if0 _ _).trans (feq (by decide)).1) k) ?_
  show own_Fin _ _ _ _ _ _ _ (T1.setTop (mkF m 14 #[.val (.ref r0), .val (.ref r1), .unset] []))
  refine own_go (fun _ k => XS.aloadN X1.here hx rfl (hb hby d3_14) rfl rfl k) ?_
  show own_Fin _ _ _ _ _ _ _ (T1.setTop (mkF m 15 #[.val (.ref r0), .val (.ref r1), .unset] [(.ref r1)]))
  obtain ⟨T2, X2, e2, st2⟩ := castY X1 hx hZ hown (hw _ (List.mem_of_getElem? (i := 37) rfl)) e1 (Ins.self E_r1_0) (g := (mkF m 15 #[.val (.ref r0), .val (.ref r1), .unset] [(.ref r1)])) rfl rfl (hb hby d3_15)
  refine own_go (fun tg k => st2 tg k) ?_
  show own_Fin _ _ _ _ _ _ _ (T2.setTop (mkF m 18 #[.val (.ref r0), .val (.ref r1), .unset] [(.ref r1)]))
  refine own_go (fun _ k => XS.astoreN X2.here hx rfl (hb hby d3_18) rfl rfl (l' := #[.val (.ref r0), .val (.ref r1), .val (.ref r1)]) rfl k) ?_
  show own_Fin _ _ _ _ _ _ _ (T2.setTop (mkF m 19 #[.val (.ref r0), .val (.ref r1), .val (.ref r1)] []))
  obtain ⟨T3, X3, e3, st3⟩ := getS2 X2 hx hZ hown (host := "") (Or.inl (hw _ (List.mem_of_getElem? (i := 39) rfl))) Via.refl e2 S_COMPACT_STRINGS_0 (g := (mkF m 19 #[.val (.ref r0), .val (.ref r1), .val (.ref r1)] [])) rfl (hb hby d3_19)
  refine own_go (fun tg k => st3 tg k) ?_
  show own_Fin _ _ _ _ _ _ _ (T3.setTop (mkF m 22 #[.val (.ref r0), .val (.ref r1), .val (.ref r1)] [(.int cs)]))
  have hc22 : ¬ (cs = (0 : Int32)) := hcs
  refine own_go (fun _ k => XS.ifNo X3.here hx rfl (hb hby d3_22) rfl ((if0 _ _).trans (feq hc22).1) k) ?_
  show own_Fin _ _ _ _ _ _ _ (T3.setTop (mkF m 25 #[.val (.ref r0), .val (.ref r1), .val (.ref r1)] []))
  refine own_go (fun _ k => XS.aloadN X3.here hx rfl (hb hby d3_25) rfl rfl k) ?_
  show own_Fin _ _ _ _ _ _ _ (T3.setTop (mkF m 26 #[.val (.ref r0), .val (.ref r1), .val (.ref r1)] [(.ref r0)]))
  obtain ⟨T4, X4, e4, st4⟩ := getF X3 hx hZ hown (host := "") (Or.inl (hw _ (List.mem_of_getElem? (i := 40) rfl))) Via.refl e3 F_coder_r0_0 (g := (mkF m 26 #[.val (.ref r0), .val (.ref r1), .val (.ref r1)] [(.ref r0)])) rfl rfl (hb hby d3_26)
  refine own_go (fun tg k => st4 tg k) ?_
  show own_Fin _ _ _ _ _ _ _ (T4.setTop (mkF m 29 #[.val (.ref r0), .val (.ref r1), .val (.ref r1)] [(.int (0 : Int32))]))
  refine own_go (fun _ k => XS.aloadN X4.here hx rfl (hb hby d3_29) rfl rfl k) ?_
  show own_Fin _ _ _ _ _ _ _ (T4.setTop (mkF m 30 #[.val (.ref r0), .val (.ref r1), .val (.ref r1)] [(.ref r1), (.int (0 : Int32))]))
  obtain ⟨T5, X5, e5, st5⟩ := getF X4 hx hZ hown (host := "") (Or.inl (hw _ (List.mem_of_getElem? (i := 40) rfl))) Via.refl e4 F_coder_r1_0 (g := (mkF m 30 #[.val (.ref r0), .val (.ref r1), .val (.ref r1)] [(.ref r1), (.int (0 : Int32))])) rfl rfl (hb hby d3_30)
  refine own_go (fun tg k => st5 tg k) ?_
  show own_Fin _ _ _ _ _ _ _ (T5.setTop (mkF m 33 #[.val (.ref r0), .val (.ref r1), .val (.ref r1)] [(.int (0 : Int32)), (.int (0 : Int32))]))
  refine own_go (fun _ k => XS.icmpNo X5.here hx rfl (hb hby d3_33) rfl (teq (by decide)).2 k) ?_
  show own_Fin _ _ _ _ _ _ _ (T5.setTop (mkF m 36 #[.val (.ref r0), .val (.ref r1), .val (.ref r1)] []))
  refine own_go (fun _ k => XS.aloadN X5.here hx rfl (hb hby d3_36) rfl rfl k) ?_
  show own_Fin _ _ _ _ _ _ _ (T5.setTop (mkF m 37 #[.val (.ref r0), .val (.ref r1), .val (.ref r1)] [(.ref r0)]))
  obtain ⟨T6, X6, e6, st6⟩ := getF X5 hx hZ hown (host := "") (Or.inl (hw _ (List.mem_of_getElem? (i := 41) rfl))) Via.refl e5 F_value_r0_0 (g := (mkF m 37 #[.val (.ref r0), .val (.ref r1), .val (.ref r1)] [(.ref r0)])) rfl rfl (hb hby d3_37)
  refine own_go (fun tg k => st6 tg k) ?_
  show own_Fin _ _ _ _ _ _ _ (T6.setTop (mkF m 40 #[.val (.ref r0), .val (.ref r1), .val (.ref r1)] [(.ref v0)]))
  refine own_go (fun _ k => XS.aloadN X6.here hx rfl (hb hby d3_40) rfl rfl k) ?_
  show own_Fin _ _ _ _ _ _ _ (T6.setTop (mkF m 41 #[.val (.ref r0), .val (.ref r1), .val (.ref r1)] [(.ref r1), (.ref v0)]))
  obtain ⟨T7, X7, e7, st7⟩ := getF X6 hx hZ hown (host := "") (Or.inl (hw _ (List.mem_of_getElem? (i := 41) rfl))) Via.refl e6 F_value_r1_0 (g := (mkF m 41 #[.val (.ref r0), .val (.ref r1), .val (.ref r1)] [(.ref r1), (.ref v0)])) rfl rfl (hb hby d3_41)
  refine own_go (fun tg k => st7 tg k) ?_
  show own_Fin _ _ _ _ _ _ _ (T7.setTop (mkF m 44 #[.val (.ref r0), .val (.ref r1), .val (.ref r1)] [(.ref v1), (.ref v0)]))
  obtain ⟨_, _, ⟨T8, L8, k8, n8⟩, -, X8, ⟨Lc8, hQ8, l8, y8, z8⟩, st8⟩ := Jvm.LawKit.callS X7 hx (y := (⟨"java/lang/StringLatin1", "equals", "([B[B)Z"⟩ : MethodName)) hown (mvT hZ (hw _ (List.mem_of_getElem? (i := 42) rfl))) (mvT hZ (hw _ (List.mem_of_getElem? (i := 43) rfl))) (mvT hZ (hw _ (List.mem_of_getElem? (i := 44) rfl))) (mvT hZ (hw _ (List.mem_of_getElem? (i := 45) rfl))) (by decide) (backOf (W := 0) (rm5n l Z a0 hw [] v0 v1 g g2 h0 n0 Z0 A_v0_0 A_v1_0) hZ (hw _ (List.mem_of_getElem? (i := 45) rfl)) (hw _ (List.mem_of_getElem? (i := 44) rfl)) (by decide) (by decide)) (g := (mkF m 44 #[.val (.ref r0), .val (.ref r1), .val (.ref r1)] [(.ref v1), (.ref v0)])) rfl (by rw [hml]; rfl) (argsL := [(.ref v0), (.ref v1)]) (rest := []) (lenOf own_pd24 rfl) rfl (by show 2 * 0 + _ ≤ _; exact Nat.le_of_eq rfl) (hb hby d3_44) (fun _ _ => ⟨rfl, e7, (by decide : 0 + 0 ≤ _), (by decide : 0 + 0 ≤ _)⟩)
  dsimp only [Pt.U, Pt.locs, Pt.cells, Pt.slots] at X8 l8 y8 z8 st8 hQ8
  replace y8 : 0 = k8 := y8.symm
  replace z8 : 0 = n8 := z8.symm
  subst y8 z8
  obtain ⟨rfl, N8q, e8⟩ := hQ8
  have N8 : Fr n0 L8 := by rw [l8]; exact Fr.app N0 N8q
  refine own_go (fun tg k => st8 tg k) ?_
  show own_Fin _ _ _ _ _ _ _ (T8.setTop (mkF m 47 #[.val (.ref r0), .val (.ref r1), .val (.ref r1)] [(.int (0 : Int32))]))
  refine own_go (fun _ k => XS.ifYes X8.here hx rfl (pc0 := 47) (pc' := 54) rfl (hb hby d3_47) rfl ((if0 _ _).trans (teq (by decide)).1) (by decide) (by decide) k) ?_
  show own_Fin _ _ _ _ _ _ _ (T8.setTop (mkF m 54 #[.val (.ref r0), .val (.ref r1), .val (.ref r1)] []))
  refine own_go (fun _ k => XS.iconst X8.here hx rfl (hb hby d3_54) k) ?_
  show own_Fin _ _ _ _ _ _ _ (T8.setTop (mkF m 55 #[.val (.ref r0), .val (.ref r1), .val (.ref r1)] [(.int (0 : Int32))]))
  refine own_ret X8 hx hlk Bd.returns rfl (Or.inl ⟨rfl, by simp, _, rfl⟩) (hb hby d3_55) (Nat.le_of_ble_eq_true rfl) (Nat.le_of_ble_eq_true rfl) ?_
  refine ⟨?_, N8, e8⟩
  · rfl
theorem d4_0 : decode prog_7_method_4_code 0 = .ok (.aload_n 0, 1) := by decide +kernel
theorem d4_1 : decode prog_7_method_4_code 1 = .ok (.getfield 55, 3) := by decide +kernel
theorem d4_4 : decode prog_7_method_4_code 4 = .ok (.ireturn, 1) := by decide +kernel
theorem pn_4 : plainName "com/example/cordon/cordon/Ending" = true := by first | (simp [plainName, overriddenIn]; done) | decide +kernel
theorem ef_4 (m : MethodId) (r0 : Addr) : entryFrame m #[(.ref r0)] 1 = mkF m 0 #[.val (.ref r0)] [] := by first | (simp [entryFrame, mkF, argsToLocals, Value.category]; done) | rfl
def rm4_room : Room := { frames := 0, cells := 0, slots := 0, locals := 0 }
def Qrm4 (Z : State) (r0 : Addr) (x1 : Int32) (h0 : Heap) (n0 : Nat) (v : Option Value) (h : Heap) (L : List Loc) : Prop := v = some (.int x1) ∧ Fr n0 L ∧ h = h0
set_option maxRecDepth 65536 in
set_option maxHeartbeats 40000000 in
theorem rm4 (l : Launch) (Z : State) (a0 : Array Value) (hw : ∀ d ∈ tables_1, d.before a0 Z = true) (ws : List Jvm.Cond) (r0 : Addr) (x1 : Int32) (h0 : Heap) (n0 : Nat) (Z0 : n0 ≤ h0.size) (F_won_r0_0 : Fld Z h0 r0 "com/example/cordon/cordon/Ending" "won" "Z" (.int x1)) (hbb : x1 = (0 : Int32) ∨ x1 = (1 : Int32)) :
    MetFree l (⟨"com/example/cordon/cordon/Ending", "won", "()Z"⟩ : MethodName) (head1 (Jvm.Cond.code (⟨"com/example/cordon/cordon/Ending", "won", "()Z"⟩ : MethodName) prog_7_method_4_code 1 (some .boolean) :: ws) rm4_room) (fun a U => a = #[(.ref r0)] ∧ Z.Warmed39 U.vm ∧ U.heap = h0) (fun _ _ _ _ _ => True) (fun _ U o U' => ∃ v L, o = .returned v ∧ Qrm4 Z r0 x1 h0 n0 v U'.heap L ∧ FrameEnd U o U' L rm4_room.cells rm4_room.slots) := by
  refine MetFree.of_bodySF (plainFor_of_name pn_4) hisR ?_
  intro p e s m args below meth c s₁ Bd hml0 hP hK
  obtain ⟨rfl, hZ, hh⟩ := hP
  have hx := Bd.exec
  have hby := Bd.bytes
  have hml : c.maxLocals = 1 := hml0
  have hown : s.vm.findClass "com/example/cordon/cordon/Ending" = some m.cls := findClass_of_methodNamed Bd.named
  have hnm := (name_of_methodNamed Bd.named Bd.method).1
  have hlk : meth.locks = false := BodyLoose.notSynchronized Bd
  have X0 : Stand p l e rm4_room s m #[(.ref r0)] below meth c s₁ [] 0 0 := Stand.of_body Bd
  have e0 : s₁.heap = h0 := by rw [← hh, Bd.state]; rfl
  have N0 := Fr.nil n0
  show own_Fin p.tables e below s (Qrm4 Z r0 x1 h0 n0) rm4_room.cells rm4_room.slots (s₁.setTop (entryFrame m #[(.ref r0)] 1))
  rw [ef_4]
  show own_Fin _ _ _ _ _ _ _ (s₁.setTop (mkF m 0 #[.val (.ref r0)] []))
  refine own_go (fun _ k => XS.aloadN X0.here hx rfl (hb hby d4_0) rfl rfl k) ?_
  show own_Fin _ _ _ _ _ _ _ (s₁.setTop (mkF m 1 #[.val (.ref r0)] [(.ref r0)]))
  obtain ⟨T1, X1, e1, st1⟩ := getF X0 hx hZ hown (host := "") (Or.inl (hw _ (List.mem_of_getElem? (i := 12) rfl))) Via.refl e0 F_won_r0_0 (g := (mkF m 1 #[.val (.ref r0)] [(.ref r0)])) rfl rfl (hb hby d4_1)
  refine own_go (fun tg k => st1 tg k) ?_
  show own_Fin _ _ _ _ _ _ _ (T1.setTop (mkF m 4 #[.val (.ref r0)] [(.int x1)]))
  refine own_ret X1 hx hlk Bd.returns (by rcases hbb with rfl | rfl <;> rfl) (Or.inl ⟨rfl, by simp, _, rfl⟩) (hb hby d4_4) (Nat.le_of_ble_eq_true rfl) (Nat.le_of_ble_eq_true rfl) ?_
  refine ⟨?_, N0, e1⟩
  · rfl
theorem d1_0 : decode method_2_code 0 = .ok (.iload_n 0, 1) := by decide +kernel
theorem d1_1 : decode method_2_code 1 = .ok (.ifCond .ne 7, 3) := by decide +kernel
theorem d1_4 : decode method_2_code 4 = .ok (.getstatic 7, 3) := by decide +kernel
theorem d1_7 : decode method_2_code 7 = .ok (.areturn, 1) := by decide +kernel
theorem pn_1 : plainName "com/example/cordon/cordon/EndingResultPinLaw" = true := by first | (simp [plainName, overriddenIn]; done) | decide +kernel
theorem ef_1 (m : MethodId) (p0 : Int32) : entryFrame m #[(.int p0)] 1 = mkF m 0 #[.val (.int p0)] [] := by first | (simp [entryFrame, mkF, argsToLocals, Value.category]; done) | rfl
def rm1k0_room : Room := { frames := 0, cells := 0, slots := 0, locals := 0 }
def Qrm1k0 (Z : State) (p0 : Int32) (ea : Addr) (h0 : Heap) (n0 : Nat) (v : Option Value) (h : Heap) (L : List Loc) : Prop := v = some (.ref ea) ∧ Fr n0 L ∧ h = h0
set_option maxRecDepth 65536 in
set_option maxHeartbeats 40000000 in
theorem rm1k0 (l : Launch) (Z : State) (a0 : Array Value) (hw : ∀ d ∈ tables_1, d.before a0 Z = true) (ws : List Jvm.Cond) (p0 : Int32) (ea : Addr) (h0 : Heap) (n0 : Nat) (Z0 : n0 ≤ h0.size) (S_CURED_0 : Sta Z h0 "com/example/cordon/cordon/Ending" "CURED" "Lcom/example/cordon/cordon/Ending;" (.ref ea)) (hp : p0 = (0 : Int32)) :
    MetFree l (⟨"com/example/cordon/cordon/EndingResultPinLaw", "pick", "(I)Lcom/example/cordon/cordon/Ending;"⟩ : MethodName) (head1 (Jvm.Cond.code (⟨"com/example/cordon/cordon/EndingResultPinLaw", "pick", "(I)Lcom/example/cordon/cordon/Ending;"⟩ : MethodName) method_2_code 1 (some (.object "com/example/cordon/cordon/Ending")) :: ws) rm1k0_room) (fun a U => a = #[(.int p0)] ∧ Z.Warmed39 U.vm ∧ U.heap = h0) (fun _ _ _ _ _ => True) (fun _ U o U' => ∃ v L, o = .returned v ∧ Qrm1k0 Z p0 ea h0 n0 v U'.heap L ∧ FrameEnd U o U' L rm1k0_room.cells rm1k0_room.slots) := by
  refine MetFree.of_bodySF (plainFor_of_name pn_1) hisR ?_
  intro p e s m args below meth c s₁ Bd hml0 hP hK
  obtain ⟨rfl, hZ, hh⟩ := hP
  have hx := Bd.exec
  have hby := Bd.bytes
  have hml : c.maxLocals = 1 := hml0
  have hown : s.vm.findClass "com/example/cordon/cordon/EndingResultPinLaw" = some m.cls := findClass_of_methodNamed Bd.named
  have hnm := (name_of_methodNamed Bd.named Bd.method).1
  have hlk : meth.locks = false := BodyLoose.notSynchronized Bd
  have X0 : Stand p l e rm1k0_room s m #[(.int p0)] below meth c s₁ [] 0 0 := Stand.of_body Bd
  have e0 : s₁.heap = h0 := by rw [← hh, Bd.state]; rfl
  have N0 := Fr.nil n0
  show own_Fin p.tables e below s (Qrm1k0 Z p0 ea h0 n0) rm1k0_room.cells rm1k0_room.slots (s₁.setTop (entryFrame m #[(.int p0)] 1))
  rw [ef_1]
  show own_Fin _ _ _ _ _ _ _ (s₁.setTop (mkF m 0 #[.val (.int p0)] []))
  refine own_go (fun _ k => XS.iloadN X0.here hx rfl (hb hby d1_0) rfl k) ?_
  show own_Fin _ _ _ _ _ _ _ (s₁.setTop (mkF m 1 #[.val (.int p0)] [(.int p0)]))
  have hc1 : p0 = (0 : Int32) := (by rw [hp]; first | done | decide)
  refine own_go (fun _ k => XS.ifNo X0.here hx rfl (hb hby d1_1) rfl ((if0 _ _).trans (teq hc1).2) k) ?_
  show own_Fin _ _ _ _ _ _ _ (s₁.setTop (mkF m 4 #[.val (.int p0)] []))
  obtain ⟨T1, X1, e1, st1⟩ := getS2 X0 hx hZ hown (host := "") (Or.inl (hw _ (List.mem_of_getElem? (i := 4) rfl))) Via.refl e0 S_CURED_0 (g := (mkF m 4 #[.val (.int p0)] [])) rfl (hb hby d1_4)
  refine own_go (fun tg k => st1 tg k) ?_
  show own_Fin _ _ _ _ _ _ _ (T1.setTop (mkF m 7 #[.val (.int p0)] [(.ref ea)]))
  refine own_ret X1 hx hlk Bd.returns rfl (Or.inr (Or.inr (Or.inr (Or.inr ⟨rfl, rfl, rfl⟩)))) (hb hby d1_7) (Nat.le_of_ble_eq_true rfl) (Nat.le_of_ble_eq_true rfl) ?_
  refine ⟨?_, N0, e1⟩
  · rfl
theorem d1_8 : decode method_2_code 8 = .ok (.iload_n 0, 1) := by decide +kernel
theorem d1_9 : decode method_2_code 9 = .ok (.iconst 1, 1) := by decide +kernel
theorem d1_10 : decode method_2_code 10 = .ok (.if_icmp .ne 7, 3) := by decide +kernel
theorem d1_13 : decode method_2_code 13 = .ok (.getstatic 13, 3) := by decide +kernel
theorem d1_16 : decode method_2_code 16 = .ok (.areturn, 1) := by decide +kernel
def rm1k1_room : Room := { frames := 0, cells := 0, slots := 0, locals := 0 }
def Qrm1k1 (Z : State) (p0 : Int32) (ea : Addr) (h0 : Heap) (n0 : Nat) (v : Option Value) (h : Heap) (L : List Loc) : Prop := v = some (.ref ea) ∧ Fr n0 L ∧ h = h0
set_option maxRecDepth 65536 in
set_option maxHeartbeats 40000000 in
theorem rm1k1 (l : Launch) (Z : State) (a0 : Array Value) (hw : ∀ d ∈ tables_1, d.before a0 Z = true) (ws : List Jvm.Cond) (p0 : Int32) (ea : Addr) (h0 : Heap) (n0 : Nat) (Z0 : n0 ≤ h0.size) (S_OUTBREAKS_0 : Sta Z h0 "com/example/cordon/cordon/Ending" "OUTBREAKS" "Lcom/example/cordon/cordon/Ending;" (.ref ea)) (hp : p0 = (1 : Int32)) :
    MetFree l (⟨"com/example/cordon/cordon/EndingResultPinLaw", "pick", "(I)Lcom/example/cordon/cordon/Ending;"⟩ : MethodName) (head1 (Jvm.Cond.code (⟨"com/example/cordon/cordon/EndingResultPinLaw", "pick", "(I)Lcom/example/cordon/cordon/Ending;"⟩ : MethodName) method_2_code 1 (some (.object "com/example/cordon/cordon/Ending")) :: ws) rm1k1_room) (fun a U => a = #[(.int p0)] ∧ Z.Warmed39 U.vm ∧ U.heap = h0) (fun _ _ _ _ _ => True) (fun _ U o U' => ∃ v L, o = .returned v ∧ Qrm1k1 Z p0 ea h0 n0 v U'.heap L ∧ FrameEnd U o U' L rm1k1_room.cells rm1k1_room.slots) := by
  refine MetFree.of_bodySF (plainFor_of_name pn_1) hisR ?_
  intro p e s m args below meth c s₁ Bd hml0 hP hK
  obtain ⟨rfl, hZ, hh⟩ := hP
  have hx := Bd.exec
  have hby := Bd.bytes
  have hml : c.maxLocals = 1 := hml0
  have hown : s.vm.findClass "com/example/cordon/cordon/EndingResultPinLaw" = some m.cls := findClass_of_methodNamed Bd.named
  have hnm := (name_of_methodNamed Bd.named Bd.method).1
  have hlk : meth.locks = false := BodyLoose.notSynchronized Bd
  have X0 : Stand p l e rm1k1_room s m #[(.int p0)] below meth c s₁ [] 0 0 := Stand.of_body Bd
  have e0 : s₁.heap = h0 := by rw [← hh, Bd.state]; rfl
  have N0 := Fr.nil n0
  show own_Fin p.tables e below s (Qrm1k1 Z p0 ea h0 n0) rm1k1_room.cells rm1k1_room.slots (s₁.setTop (entryFrame m #[(.int p0)] 1))
  rw [ef_1]
  show own_Fin _ _ _ _ _ _ _ (s₁.setTop (mkF m 0 #[.val (.int p0)] []))
  refine own_go (fun _ k => XS.iloadN X0.here hx rfl (hb hby d1_0) rfl k) ?_
  show own_Fin _ _ _ _ _ _ _ (s₁.setTop (mkF m 1 #[.val (.int p0)] [(.int p0)]))
  have hc1 : ¬ (p0 = (0 : Int32)) := (by rw [hp]; first | done | decide)
  refine own_go (fun _ k => XS.ifYes X0.here hx rfl (pc0 := 1) (pc' := 8) rfl (hb hby d1_1) rfl ((if0 _ _).trans (feq hc1).2) (by decide) (by decide) k) ?_
  show own_Fin _ _ _ _ _ _ _ (s₁.setTop (mkF m 8 #[.val (.int p0)] []))
  refine own_go (fun _ k => XS.iloadN X0.here hx rfl (hb hby d1_8) rfl k) ?_
  show own_Fin _ _ _ _ _ _ _ (s₁.setTop (mkF m 9 #[.val (.int p0)] [(.int p0)]))
  refine own_go (fun _ k => XS.iconst X0.here hx rfl (hb hby d1_9) k) ?_
  show own_Fin _ _ _ _ _ _ _ (s₁.setTop (mkF m 10 #[.val (.int p0)] [(.int (1 : Int32)), (.int p0)]))
  have hc10 : p0 = (1 : Int32) := (by rw [hp]; first | done | decide)
  refine own_go (fun _ k => XS.icmpNo X0.here hx rfl (hb hby d1_10) rfl (teq hc10).2 k) ?_
  show own_Fin _ _ _ _ _ _ _ (s₁.setTop (mkF m 13 #[.val (.int p0)] []))
  obtain ⟨T1, X1, e1, st1⟩ := getS2 X0 hx hZ hown (host := "") (Or.inl (hw _ (List.mem_of_getElem? (i := 48) rfl))) Via.refl e0 S_OUTBREAKS_0 (g := (mkF m 13 #[.val (.int p0)] [])) rfl (hb hby d1_13)
  refine own_go (fun tg k => st1 tg k) ?_
  show own_Fin _ _ _ _ _ _ _ (T1.setTop (mkF m 16 #[.val (.int p0)] [(.ref ea)]))
  refine own_ret X1 hx hlk Bd.returns rfl (Or.inr (Or.inr (Or.inr (Or.inr ⟨rfl, rfl, rfl⟩)))) (hb hby d1_16) (Nat.le_of_ble_eq_true rfl) (Nat.le_of_ble_eq_true rfl) ?_
  refine ⟨?_, N0, e1⟩
  · rfl
theorem d1_17 : decode method_2_code 17 = .ok (.iload_n 0, 1) := by decide +kernel
theorem d1_18 : decode method_2_code 18 = .ok (.iconst 2, 1) := by decide +kernel
theorem d1_19 : decode method_2_code 19 = .ok (.if_icmp .ne 7, 3) := by decide +kernel
theorem d1_22 : decode method_2_code 22 = .ok (.getstatic 16, 3) := by decide +kernel
theorem d1_25 : decode method_2_code 25 = .ok (.areturn, 1) := by decide +kernel
def rm1k2_room : Room := { frames := 0, cells := 0, slots := 0, locals := 0 }
def Qrm1k2 (Z : State) (p0 : Int32) (ea : Addr) (h0 : Heap) (n0 : Nat) (v : Option Value) (h : Heap) (L : List Loc) : Prop := v = some (.ref ea) ∧ Fr n0 L ∧ h = h0
set_option maxRecDepth 65536 in
set_option maxHeartbeats 40000000 in
theorem rm1k2 (l : Launch) (Z : State) (a0 : Array Value) (hw : ∀ d ∈ tables_1, d.before a0 Z = true) (ws : List Jvm.Cond) (p0 : Int32) (ea : Addr) (h0 : Heap) (n0 : Nat) (Z0 : n0 ≤ h0.size) (S_CUBES_0 : Sta Z h0 "com/example/cordon/cordon/Ending" "CUBES" "Lcom/example/cordon/cordon/Ending;" (.ref ea)) (hp : p0 = (2 : Int32)) :
    MetFree l (⟨"com/example/cordon/cordon/EndingResultPinLaw", "pick", "(I)Lcom/example/cordon/cordon/Ending;"⟩ : MethodName) (head1 (Jvm.Cond.code (⟨"com/example/cordon/cordon/EndingResultPinLaw", "pick", "(I)Lcom/example/cordon/cordon/Ending;"⟩ : MethodName) method_2_code 1 (some (.object "com/example/cordon/cordon/Ending")) :: ws) rm1k2_room) (fun a U => a = #[(.int p0)] ∧ Z.Warmed39 U.vm ∧ U.heap = h0) (fun _ _ _ _ _ => True) (fun _ U o U' => ∃ v L, o = .returned v ∧ Qrm1k2 Z p0 ea h0 n0 v U'.heap L ∧ FrameEnd U o U' L rm1k2_room.cells rm1k2_room.slots) := by
  refine MetFree.of_bodySF (plainFor_of_name pn_1) hisR ?_
  intro p e s m args below meth c s₁ Bd hml0 hP hK
  obtain ⟨rfl, hZ, hh⟩ := hP
  have hx := Bd.exec
  have hby := Bd.bytes
  have hml : c.maxLocals = 1 := hml0
  have hown : s.vm.findClass "com/example/cordon/cordon/EndingResultPinLaw" = some m.cls := findClass_of_methodNamed Bd.named
  have hnm := (name_of_methodNamed Bd.named Bd.method).1
  have hlk : meth.locks = false := BodyLoose.notSynchronized Bd
  have X0 : Stand p l e rm1k2_room s m #[(.int p0)] below meth c s₁ [] 0 0 := Stand.of_body Bd
  have e0 : s₁.heap = h0 := by rw [← hh, Bd.state]; rfl
  have N0 := Fr.nil n0
  show own_Fin p.tables e below s (Qrm1k2 Z p0 ea h0 n0) rm1k2_room.cells rm1k2_room.slots (s₁.setTop (entryFrame m #[(.int p0)] 1))
  rw [ef_1]
  show own_Fin _ _ _ _ _ _ _ (s₁.setTop (mkF m 0 #[.val (.int p0)] []))
  refine own_go (fun _ k => XS.iloadN X0.here hx rfl (hb hby d1_0) rfl k) ?_
  show own_Fin _ _ _ _ _ _ _ (s₁.setTop (mkF m 1 #[.val (.int p0)] [(.int p0)]))
  have hc1 : ¬ (p0 = (0 : Int32)) := (by rw [hp]; first | done | decide)
  refine own_go (fun _ k => XS.ifYes X0.here hx rfl (pc0 := 1) (pc' := 8) rfl (hb hby d1_1) rfl ((if0 _ _).trans (feq hc1).2) (by decide) (by decide) k) ?_
  show own_Fin _ _ _ _ _ _ _ (s₁.setTop (mkF m 8 #[.val (.int p0)] []))
  refine own_go (fun _ k => XS.iloadN X0.here hx rfl (hb hby d1_8) rfl k) ?_
  show own_Fin _ _ _ _ _ _ _ (s₁.setTop (mkF m 9 #[.val (.int p0)] [(.int p0)]))
  refine own_go (fun _ k => XS.iconst X0.here hx rfl (hb hby d1_9) k) ?_
  show own_Fin _ _ _ _ _ _ _ (s₁.setTop (mkF m 10 #[.val (.int p0)] [(.int (1 : Int32)), (.int p0)]))
  have hc10 : ¬ (p0 = (1 : Int32)) := (by rw [hp]; first | done | decide)
  refine own_go (fun _ k => XS.icmpYes X0.here hx rfl (pc0 := 10) (pc' := 17) rfl (hb hby d1_10) rfl (feq hc10).2 (by decide) (by decide) k) ?_
  show own_Fin _ _ _ _ _ _ _ (s₁.setTop (mkF m 17 #[.val (.int p0)] []))
  refine own_go (fun _ k => XS.iloadN X0.here hx rfl (hb hby d1_17) rfl k) ?_
  show own_Fin _ _ _ _ _ _ _ (s₁.setTop (mkF m 18 #[.val (.int p0)] [(.int p0)]))
  refine own_go (fun _ k => XS.iconst X0.here hx rfl (hb hby d1_18) k) ?_
  show own_Fin _ _ _ _ _ _ _ (s₁.setTop (mkF m 19 #[.val (.int p0)] [(.int (2 : Int32)), (.int p0)]))
  have hc19 : p0 = (2 : Int32) := (by rw [hp]; first | done | decide)
  refine own_go (fun _ k => XS.icmpNo X0.here hx rfl (hb hby d1_19) rfl (teq hc19).2 k) ?_
  show own_Fin _ _ _ _ _ _ _ (s₁.setTop (mkF m 22 #[.val (.int p0)] []))
  obtain ⟨T1, X1, e1, st1⟩ := getS2 X0 hx hZ hown (host := "") (Or.inl (hw _ (List.mem_of_getElem? (i := 46) rfl))) Via.refl e0 S_CUBES_0 (g := (mkF m 22 #[.val (.int p0)] [])) rfl (hb hby d1_22)
  refine own_go (fun tg k => st1 tg k) ?_
  show own_Fin _ _ _ _ _ _ _ (T1.setTop (mkF m 25 #[.val (.int p0)] [(.ref ea)]))
  refine own_ret X1 hx hlk Bd.returns rfl (Or.inr (Or.inr (Or.inr (Or.inr ⟨rfl, rfl, rfl⟩)))) (hb hby d1_25) (Nat.le_of_ble_eq_true rfl) (Nat.le_of_ble_eq_true rfl) ?_
  refine ⟨?_, N0, e1⟩
  · rfl
theorem d1_26 : decode method_2_code 26 = .ok (.getstatic 19, 3) := by decide +kernel
theorem d1_29 : decode method_2_code 29 = .ok (.areturn, 1) := by decide +kernel
def rm1k3_room : Room := { frames := 0, cells := 0, slots := 0, locals := 0 }
def Qrm1k3 (Z : State) (p0 : Int32) (ea : Addr) (h0 : Heap) (n0 : Nat) (v : Option Value) (h : Heap) (L : List Loc) : Prop := v = some (.ref ea) ∧ Fr n0 L ∧ h = h0
set_option maxRecDepth 65536 in
set_option maxHeartbeats 40000000 in
theorem rm1k3 (l : Launch) (Z : State) (a0 : Array Value) (hw : ∀ d ∈ tables_1, d.before a0 Z = true) (ws : List Jvm.Cond) (p0 : Int32) (ea : Addr) (h0 : Heap) (n0 : Nat) (Z0 : n0 ≤ h0.size) (S_CARDS_0 : Sta Z h0 "com/example/cordon/cordon/Ending" "CARDS" "Lcom/example/cordon/cordon/Ending;" (.ref ea)) (hp : p0 = (3 : Int32)) :
    MetFree l (⟨"com/example/cordon/cordon/EndingResultPinLaw", "pick", "(I)Lcom/example/cordon/cordon/Ending;"⟩ : MethodName) (head1 (Jvm.Cond.code (⟨"com/example/cordon/cordon/EndingResultPinLaw", "pick", "(I)Lcom/example/cordon/cordon/Ending;"⟩ : MethodName) method_2_code 1 (some (.object "com/example/cordon/cordon/Ending")) :: ws) rm1k3_room) (fun a U => a = #[(.int p0)] ∧ Z.Warmed39 U.vm ∧ U.heap = h0) (fun _ _ _ _ _ => True) (fun _ U o U' => ∃ v L, o = .returned v ∧ Qrm1k3 Z p0 ea h0 n0 v U'.heap L ∧ FrameEnd U o U' L rm1k3_room.cells rm1k3_room.slots) := by
  refine MetFree.of_bodySF (plainFor_of_name pn_1) hisR ?_
  intro p e s m args below meth c s₁ Bd hml0 hP hK
  obtain ⟨rfl, hZ, hh⟩ := hP
  have hx := Bd.exec
  have hby := Bd.bytes
  have hml : c.maxLocals = 1 := hml0
  have hown : s.vm.findClass "com/example/cordon/cordon/EndingResultPinLaw" = some m.cls := findClass_of_methodNamed Bd.named
  have hnm := (name_of_methodNamed Bd.named Bd.method).1
  have hlk : meth.locks = false := BodyLoose.notSynchronized Bd
  have X0 : Stand p l e rm1k3_room s m #[(.int p0)] below meth c s₁ [] 0 0 := Stand.of_body Bd
  have e0 : s₁.heap = h0 := by rw [← hh, Bd.state]; rfl
  have N0 := Fr.nil n0
  show own_Fin p.tables e below s (Qrm1k3 Z p0 ea h0 n0) rm1k3_room.cells rm1k3_room.slots (s₁.setTop (entryFrame m #[(.int p0)] 1))
  rw [ef_1]
  show own_Fin _ _ _ _ _ _ _ (s₁.setTop (mkF m 0 #[.val (.int p0)] []))
  refine own_go (fun _ k => XS.iloadN X0.here hx rfl (hb hby d1_0) rfl k) ?_
  show own_Fin _ _ _ _ _ _ _ (s₁.setTop (mkF m 1 #[.val (.int p0)] [(.int p0)]))
  have hc1 : ¬ (p0 = (0 : Int32)) := (by rw [hp]; first | done | decide)
  refine own_go (fun _ k => XS.ifYes X0.here hx rfl (pc0 := 1) (pc' := 8) rfl (hb hby d1_1) rfl ((if0 _ _).trans (feq hc1).2) (by decide) (by decide) k) ?_
  show own_Fin _ _ _ _ _ _ _ (s₁.setTop (mkF m 8 #[.val (.int p0)] []))
  refine own_go (fun _ k => XS.iloadN X0.here hx rfl (hb hby d1_8) rfl k) ?_
  show own_Fin _ _ _ _ _ _ _ (s₁.setTop (mkF m 9 #[.val (.int p0)] [(.int p0)]))
  refine own_go (fun _ k => XS.iconst X0.here hx rfl (hb hby d1_9) k) ?_
  show own_Fin _ _ _ _ _ _ _ (s₁.setTop (mkF m 10 #[.val (.int p0)] [(.int (1 : Int32)), (.int p0)]))
  have hc10 : ¬ (p0 = (1 : Int32)) := (by rw [hp]; first | done | decide)
  refine own_go (fun _ k => XS.icmpYes X0.here hx rfl (pc0 := 10) (pc' := 17) rfl (hb hby d1_10) rfl (feq hc10).2 (by decide) (by decide) k) ?_
  show own_Fin _ _ _ _ _ _ _ (s₁.setTop (mkF m 17 #[.val (.int p0)] []))
  refine own_go (fun _ k => XS.iloadN X0.here hx rfl (hb hby d1_17) rfl k) ?_
  show own_Fin _ _ _ _ _ _ _ (s₁.setTop (mkF m 18 #[.val (.int p0)] [(.int p0)]))
  refine own_go (fun _ k => XS.iconst X0.here hx rfl (hb hby d1_18) k) ?_
  show own_Fin _ _ _ _ _ _ _ (s₁.setTop (mkF m 19 #[.val (.int p0)] [(.int (2 : Int32)), (.int p0)]))
  have hc19 : ¬ (p0 = (2 : Int32)) := (by rw [hp]; first | done | decide)
  refine own_go (fun _ k => XS.icmpYes X0.here hx rfl (pc0 := 19) (pc' := 26) rfl (hb hby d1_19) rfl (feq hc19).2 (by decide) (by decide) k) ?_
  show own_Fin _ _ _ _ _ _ _ (s₁.setTop (mkF m 26 #[.val (.int p0)] []))
  obtain ⟨T1, X1, e1, st1⟩ := getS2 X0 hx hZ hown (host := "") (Or.inl (hw _ (List.mem_of_getElem? (i := 33) rfl))) Via.refl e0 S_CARDS_0 (g := (mkF m 26 #[.val (.int p0)] [])) rfl (hb hby d1_26)
  refine own_go (fun tg k => st1 tg k) ?_
  show own_Fin _ _ _ _ _ _ _ (T1.setTop (mkF m 29 #[.val (.int p0)] [(.ref ea)]))
  refine own_ret X1 hx hlk Bd.returns rfl (Or.inr (Or.inr (Or.inr (Or.inr ⟨rfl, rfl, rfl⟩)))) (hb hby d1_29) (Nat.le_of_ble_eq_true rfl) (Nat.le_of_ble_eq_true rfl) ?_
  refine ⟨?_, N0, e1⟩
  · rfl
theorem d2_0 : decode prog_7_method_5_code 0 = .ok (.aload_n 0, 1) := by decide +kernel
theorem d2_1 : decode prog_7_method_5_code 1 = .ok (.getfield 55, 3) := by decide +kernel
theorem d2_4 : decode prog_7_method_5_code 4 = .ok (.ifCond .eq 8, 3) := by decide +kernel
theorem d2_7 : decode prog_7_method_5_code 7 = .ok (.ldc 59, 2) := by decide +kernel
theorem d2_9 : decode prog_7_method_5_code 9 = .ok (.goto 5, 3) := by decide +kernel
theorem d2_14 : decode prog_7_method_5_code 14 = .ok (.areturn, 1) := by decide +kernel
theorem pn_2 : plainName "com/example/cordon/cordon/Ending" = true := by first | (simp [plainName, overriddenIn]; done) | decide +kernel
theorem ef_2 (m : MethodId) (r0 : Addr) : entryFrame m #[(.ref r0)] 1 = mkF m 0 #[.val (.ref r0)] [] := by first | (simp [entryFrame, mkF, argsToLocals, Value.category]; done) | rfl
def rm2w_room : Room := { frames := 0, cells := 2, slots := 16, locals := 0 }
def Qrm2w (Z : State) (r0 : Addr) (h0 : Heap) (n0 : Nat) (v : Option Value) (h : Heap) (L : List Loc) : Prop := ∃ ra : Addr, ∃ rb : Addr, v = some (.ref ra) ∧ Fr n0 L ∧ Keep h0 h [] ∧ Exa Z h ra "java/lang/String" ∧ Fld Z h ra "java/lang/String" "coder" "B" (.int (0 : Int32)) ∧ Fld Z h ra "java/lang/String" "value" "[B" (.ref rb) ∧ own_Arf Z h rb .byte (3 : Int32) (fun i => .int (own_won i))
set_option maxRecDepth 65536 in
set_option maxHeartbeats 40000000 in
theorem rm2w (l : Launch) (Z : State) (a0 : Array Value) (hw : ∀ d ∈ tables_1, d.before a0 Z = true) (ws : List Jvm.Cond) (r0 : Addr) (h0 : Heap) (n0 : Nat) (Z0 : n0 ≤ h0.size) (F_won_r0_0 : Fld Z h0 r0 "com/example/cordon/cordon/Ending" "won" "Z" (.int (1 : Int32))) :
    MetFree l (⟨"com/example/cordon/cordon/Ending", "result", "()Ljava/lang/String;"⟩ : MethodName) (head1 (Jvm.Cond.code (⟨"com/example/cordon/cordon/Ending", "result", "()Ljava/lang/String;"⟩ : MethodName) prog_7_method_5_code 1 (some (.object "java/lang/String")) :: ws) rm2w_room) (fun a U => a = #[(.ref r0)] ∧ Z.Warmed39 U.vm ∧ U.heap = h0 ∧ CHv Z own_EL U.vm h0) (fun _ _ _ _ _ => True) (fun _ U o U' => ∃ v L, o = .returned v ∧ Qrm2w Z r0 h0 n0 v U'.heap L ∧ CHr Z own_EL U.vm U.heap U'.vm U'.heap ∧ ReturnedEndW U o U' L rm2w_room.cells rm2w_room.slots) := by
  refine MetFree.of_bodySF (plainFor_of_name pn_2) hisR ?_
  intro p e s m args below meth c s₁ Bd hml0 hP hK
  obtain ⟨rfl, hZ, hh, hCH⟩ := hP
  have hx := Bd.exec
  have hby := Bd.bytes
  have hml : c.maxLocals = 1 := hml0
  have hown : s.vm.findClass "com/example/cordon/cordon/Ending" = some m.cls := findClass_of_methodNamed Bd.named
  have hnm := (name_of_methodNamed Bd.named Bd.method).1
  have hlk : meth.locks = false := BodyLoose.notSynchronized Bd
  have X0 : Stand p l e rm2w_room s m #[(.ref r0)] below meth c s₁ [] 0 0 := Stand.of_body Bd
  have e0 : s₁.heap = h0 := by rw [← hh, Bd.state]; rfl
  have N0 := Fr.nil n0
  show own_FinW Z own_EL p.tables e below s (Qrm2w Z r0 h0 n0) rm2w_room.cells rm2w_room.slots (s₁.setTop (entryFrame m #[(.ref r0)] 1))
  rw [ef_2]
  obtain ⟨s00, es00⟩ : ∃ z : State, z = s := ⟨s, rfl⟩
  rw [← es00]
  have hS0 : own_Wb s00 s 0 := by rw [es00]; exact own_Wb.start s
  have hk0 : 0 ≤ h0.size := Nat.zero_le _
  have hC0 : CHr Z own_EL s00.vm s00.heap s.vm h0 := by rw [es00, hh]; exact CHr.refl hCH
  show own_FinW _ _ _ _ _ _ _ _ _ (s₁.setTop (mkF m 0 #[.val (.ref r0)] []))
  have K0 := Keep.refl h0 []
  refine own_goW (fun _ k => XS.aloadN X0.here hx rfl (hb hby d2_0) rfl rfl k) ?_
  show own_FinW _ _ _ _ _ _ _ _ _ (s₁.setTop (mkF m 1 #[.val (.ref r0)] [(.ref r0)]))
  obtain ⟨T1, X1, e1, st1⟩ := getF X0 hx hZ hown (host := "") (Or.inl (hw _ (List.mem_of_getElem? (i := 12) rfl))) Via.refl e0 F_won_r0_0 (g := (mkF m 1 #[.val (.ref r0)] [(.ref r0)])) rfl rfl (hb hby d2_1)
  refine own_goW (fun tg k => st1 tg k) ?_
  show own_FinW _ _ _ _ _ _ _ _ _ (T1.setTop (mkF m 4 #[.val (.ref r0)] [(.int (1 : Int32))]))
  refine own_goW (fun _ k => XS.ifNo X1.here hx rfl (hb hby d2_4) rfl ((if0 _ _).trans (feq (by decide)).1) k) ?_
  show own_FinW _ _ _ _ _ _ _ _ _ (T1.setTop (mkF m 7 #[.val (.ref r0)] []))
  obtain ⟨a2, T2, h2, k2, s, b2, X2, e2, E2, hS2, hk2, hZ, hown, hC2, E_a2_2, F_coder_a2_2, F_value_a2_2, A_b2_2, st2⟩ := own_ldcC X1 hx hZ hown (hw _ (List.mem_of_getElem? (i := 14) rfl)) (own_wS hw) e1 hS0 hk0 (own_EW hw) (List.mem_of_getElem? (i := 0) rfl) hC0 ⟨by decide, rfl⟩ (z := (3 : Int32)) (by decide) rfl (f := fun i => .int (own_won i)) own_won_ok (g := (mkF m 7 #[.val (.ref r0)] [])) rfl (hb hby d2_7) (n := 12) (by decide) (by decide) (by decide) (by decide)
  have F_won_r0_2 := F_won_r0_0.ext E2
  have K2 := K0.ext E2
  have Z2 : n0 ≤ h2.size := Nat.le_trans Z0 E2.1
  refine own_goW (fun tg k => st2 tg k) ?_
  show own_FinW _ _ _ _ _ _ _ _ _ (T2.setTop (mkF m 9 #[.val (.ref r0)] [(.ref a2)]))
  refine own_goW (fun _ k => XS.goto X2.here hx rfl (pc0 := 9) (pc' := 14) rfl (hb hby d2_9) (by decide) (by decide) k) ?_
  show own_FinW _ _ _ _ _ _ _ _ _ (T2.setTop (mkF m 14 #[.val (.ref r0)] [(.ref a2)]))
  refine own_retW X2 hx hlk hS2 (by rw [e2]; exact hk2) Bd.returns rfl (Or.inr (Or.inr (Or.inr (Or.inr ⟨rfl, rfl, rfl⟩)))) (hb hby d2_14) (Nat.le_of_ble_eq_true rfl) (Nat.le_of_ble_eq_true rfl) (own_chT X2 hZ hS2 (own_EW hw) e2 hC2) ?_
  rw [e2]
  refine ⟨a2, b2, ?_, N0, K2, E_a2_2, ?_, ?_, ?_⟩
  · rfl
  · (exact F_coder_a2_2)
  · (exact F_value_a2_2)
  · (exact A_b2_2)
theorem d2_12 : decode prog_7_method_5_code 12 = .ok (.ldc 60, 2) := by decide +kernel
def rm2l_room : Room := { frames := 0, cells := 2, slots := 20, locals := 0 }
def Qrm2l (Z : State) (r0 : Addr) (h0 : Heap) (n0 : Nat) (v : Option Value) (h : Heap) (L : List Loc) : Prop := ∃ ra : Addr, ∃ rb : Addr, v = some (.ref ra) ∧ Fr n0 L ∧ Keep h0 h [] ∧ Exa Z h ra "java/lang/String" ∧ Fld Z h ra "java/lang/String" "coder" "B" (.int (0 : Int32)) ∧ Fld Z h ra "java/lang/String" "value" "[B" (.ref rb) ∧ own_Arf Z h rb .byte (4 : Int32) (fun i => .int (own_lost i))
set_option maxRecDepth 65536 in
set_option maxHeartbeats 40000000 in
theorem rm2l (l : Launch) (Z : State) (a0 : Array Value) (hw : ∀ d ∈ tables_1, d.before a0 Z = true) (ws : List Jvm.Cond) (r0 : Addr) (h0 : Heap) (n0 : Nat) (Z0 : n0 ≤ h0.size) (F_won_r0_0 : Fld Z h0 r0 "com/example/cordon/cordon/Ending" "won" "Z" (.int (0 : Int32))) :
    MetFree l (⟨"com/example/cordon/cordon/Ending", "result", "()Ljava/lang/String;"⟩ : MethodName) (head1 (Jvm.Cond.code (⟨"com/example/cordon/cordon/Ending", "result", "()Ljava/lang/String;"⟩ : MethodName) prog_7_method_5_code 1 (some (.object "java/lang/String")) :: ws) rm2l_room) (fun a U => a = #[(.ref r0)] ∧ Z.Warmed39 U.vm ∧ U.heap = h0 ∧ CHv Z own_EL U.vm h0) (fun _ _ _ _ _ => True) (fun _ U o U' => ∃ v L, o = .returned v ∧ Qrm2l Z r0 h0 n0 v U'.heap L ∧ CHr Z own_EL U.vm U.heap U'.vm U'.heap ∧ ReturnedEndW U o U' L rm2l_room.cells rm2l_room.slots) := by
  refine MetFree.of_bodySF (plainFor_of_name pn_2) hisR ?_
  intro p e s m args below meth c s₁ Bd hml0 hP hK
  obtain ⟨rfl, hZ, hh, hCH⟩ := hP
  have hx := Bd.exec
  have hby := Bd.bytes
  have hml : c.maxLocals = 1 := hml0
  have hown : s.vm.findClass "com/example/cordon/cordon/Ending" = some m.cls := findClass_of_methodNamed Bd.named
  have hnm := (name_of_methodNamed Bd.named Bd.method).1
  have hlk : meth.locks = false := BodyLoose.notSynchronized Bd
  have X0 : Stand p l e rm2l_room s m #[(.ref r0)] below meth c s₁ [] 0 0 := Stand.of_body Bd
  have e0 : s₁.heap = h0 := by rw [← hh, Bd.state]; rfl
  have N0 := Fr.nil n0
  show own_FinW Z own_EL p.tables e below s (Qrm2l Z r0 h0 n0) rm2l_room.cells rm2l_room.slots (s₁.setTop (entryFrame m #[(.ref r0)] 1))
  rw [ef_2]
  obtain ⟨s00, es00⟩ : ∃ z : State, z = s := ⟨s, rfl⟩
  rw [← es00]
  have hS0 : own_Wb s00 s 0 := by rw [es00]; exact own_Wb.start s
  have hk0 : 0 ≤ h0.size := Nat.zero_le _
  have hC0 : CHr Z own_EL s00.vm s00.heap s.vm h0 := by rw [es00, hh]; exact CHr.refl hCH
  show own_FinW _ _ _ _ _ _ _ _ _ (s₁.setTop (mkF m 0 #[.val (.ref r0)] []))
  have K0 := Keep.refl h0 []
  refine own_goW (fun _ k => XS.aloadN X0.here hx rfl (hb hby d2_0) rfl rfl k) ?_
  show own_FinW _ _ _ _ _ _ _ _ _ (s₁.setTop (mkF m 1 #[.val (.ref r0)] [(.ref r0)]))
  obtain ⟨T1, X1, e1, st1⟩ := getF X0 hx hZ hown (host := "") (Or.inl (hw _ (List.mem_of_getElem? (i := 12) rfl))) Via.refl e0 F_won_r0_0 (g := (mkF m 1 #[.val (.ref r0)] [(.ref r0)])) rfl rfl (hb hby d2_1)
  refine own_goW (fun tg k => st1 tg k) ?_
  show own_FinW _ _ _ _ _ _ _ _ _ (T1.setTop (mkF m 4 #[.val (.ref r0)] [(.int (0 : Int32))]))
  refine own_goW (fun _ k => XS.ifYes X1.here hx rfl (pc0 := 4) (pc' := 12) rfl (hb hby d2_4) rfl ((if0 _ _).trans (teq (by decide)).1) (by decide) (by decide) k) ?_
  show own_FinW _ _ _ _ _ _ _ _ _ (T1.setTop (mkF m 12 #[.val (.ref r0)] []))
  obtain ⟨a2, T2, h2, k2, s, b2, X2, e2, E2, hS2, hk2, hZ, hown, hC2, E_a2_2, F_coder_a2_2, F_value_a2_2, A_b2_2, st2⟩ := own_ldcC X1 hx hZ hown (hw _ (List.mem_of_getElem? (i := 35) rfl)) (own_wS hw) e1 hS0 hk0 (own_EW hw) (List.mem_of_getElem? (i := 1) rfl) hC0 ⟨by decide, rfl⟩ (z := (4 : Int32)) (by decide) rfl (f := fun i => .int (own_lost i)) own_lost_ok (g := (mkF m 12 #[.val (.ref r0)] [])) rfl (hb hby d2_12) (n := 16) (by decide) (by decide) (by decide) (by decide)
  have F_won_r0_2 := F_won_r0_0.ext E2
  have K2 := K0.ext E2
  have Z2 : n0 ≤ h2.size := Nat.le_trans Z0 E2.1
  refine own_goW (fun tg k => st2 tg k) ?_
  show own_FinW _ _ _ _ _ _ _ _ _ (T2.setTop (mkF m 14 #[.val (.ref r0)] [(.ref a2)]))
  refine own_retW X2 hx hlk hS2 (by rw [e2]; exact hk2) Bd.returns rfl (Or.inr (Or.inr (Or.inr (Or.inr ⟨rfl, rfl, rfl⟩)))) (hb hby d2_14) (Nat.le_of_ble_eq_true rfl) (Nat.le_of_ble_eq_true rfl) (own_chT X2 hZ hS2 (own_EW hw) e2 hC2) ?_
  rw [e2]
  refine ⟨a2, b2, ?_, N0, K2, E_a2_2, ?_, ?_, ?_⟩
  · rfl
  · (exact F_coder_a2_2)
  · (exact F_value_a2_2)
  · (exact A_b2_2)
theorem own_and3 (x : Int32) (h0 : ¬ (x &&& (3 : Int32)) = (0 : Int32)) (h1 : ¬ (x &&& (3 : Int32)) = (1 : Int32)) (h2 : ¬ (x &&& (3 : Int32)) = (2 : Int32)) : (x &&& (3 : Int32)) = (3 : Int32) := by
  have e : (x &&& (3 : Int32)) = Int32.ofNat ((x &&& (3 : Int32)).toBitVec.toNat) := by
    apply Int32.toBitVec_inj.mp
    simp
  have q : ((x &&& (3 : Int32)).toBitVec).toNat ≤ 3 := by
    show (x.toBitVec &&& (3#32)).toNat ≤ 3
    rw [BitVec.toNat_and]
    exact Nat.and_le_right
  rw [e] at h0 h1 h2 ⊢
  generalize (x &&& (3 : Int32)).toBitVec.toNat = n at *
  match n, q with
  | 0, _ => exact absurd rfl h0
  | 1, _ => exact absurd rfl h1
  | 2, _ => exact absurd rfl h2
  | 3, _ => rfl

theorem own_pd89 : parseMethodDescriptor "(I)Lcom/example/cordon/cordon/Ending;" = some ⟨[.int], some (.object "com/example/cordon/cordon/Ending")⟩ := by decide +kernel
theorem own_pd90 : parseMethodDescriptor "()Ljava/lang/String;" = some ⟨[], some (.object "java/lang/String")⟩ := by decide +kernel
theorem own_pd91 : parseMethodDescriptor "(Ljava/lang/Object;)Z" = some ⟨[(.object "java/lang/Object")], some .boolean⟩ := by decide +kernel
theorem own_pd92 : parseMethodDescriptor "()Z" = some ⟨[], some .boolean⟩ := by decide +kernel
theorem pn_0 : plainName "com/example/cordon/cordon/EndingResultPinLaw" = true := by first | (simp [plainName, overriddenIn]; done) | decide +kernel
theorem ef_0 (m : MethodId) (p0 : Int32) : entryFrame m #[(.int p0)] maxLocals = mkF m 0 #[.val (.int p0), .unset, .unset, .unset, .unset] [] := by first | (simp [entryFrame, mkF, argsToLocals, Value.category, maxLocals]; done) | rfl
def own_f0 (p0 : Int32) : Int32 := (if (p0 &&& (3 : Int32)) = (0 : Int32) then ((1 : Int32)) else ((if (p0 &&& (3 : Int32)) = (1 : Int32) then ((1 : Int32)) else ((if (p0 &&& (3 : Int32)) = (2 : Int32) then ((1 : Int32)) else ((1 : Int32)))))))
theorem own_lf_own_f0_1 {p0 : Int32} (hs1 : (p0 &&& (3 : Int32)) = (0 : Int32)) : (some (.int (1 : Int32)) : Option Value) = some (.int (own_f0 p0)) := by
  first | (simp only [own_f0, if_pos hs1]; done) | (simp only [own_f0, if_pos hs1]; rfl) | rfl
theorem own_lf_own_f0_2 {p0 : Int32} (hs1 : ¬ ((p0 &&& (3 : Int32)) = (0 : Int32))) (hs9 : (p0 &&& (3 : Int32)) = (1 : Int32)) : (some (.int (1 : Int32)) : Option Value) = some (.int (own_f0 p0)) := by
  first | (simp only [own_f0, if_neg hs1, if_pos hs9]; done) | (simp only [own_f0, if_neg hs1, if_pos hs9]; rfl) | rfl
theorem own_lf_own_f0_3 {p0 : Int32} (hs1 : ¬ ((p0 &&& (3 : Int32)) = (0 : Int32))) (hs9 : ¬ ((p0 &&& (3 : Int32)) = (1 : Int32))) (hs18 : (p0 &&& (3 : Int32)) = (2 : Int32)) : (some (.int (1 : Int32)) : Option Value) = some (.int (own_f0 p0)) := by
  first | (simp only [own_f0, if_neg hs1, if_neg hs9, if_pos hs18]; done) | (simp only [own_f0, if_neg hs1, if_neg hs9, if_pos hs18]; rfl) | rfl
theorem own_lf_own_f0_4 {p0 : Int32} (hs1 : ¬ ((p0 &&& (3 : Int32)) = (0 : Int32))) (hs9 : ¬ ((p0 &&& (3 : Int32)) = (1 : Int32))) (hs18 : ¬ ((p0 &&& (3 : Int32)) = (2 : Int32))) : (some (.int (1 : Int32)) : Option Value) = some (.int (own_f0 p0)) := by
  first | (simp only [own_f0, if_neg hs1, if_neg hs9, if_neg hs18]; done) | (simp only [own_f0, if_neg hs1, if_neg hs9, if_neg hs18]; rfl) | rfl
set_option maxRecDepth 65536 in
set_option maxHeartbeats 40000000 in
theorem rm0 (l : Launch) (Z : State) (a0 : Array Value) (hw : ∀ d ∈ tables_1, d.before a0 Z = true) (ws : List Jvm.Cond) (p0 : Int32) (u0 : Addr) (u1 : Addr) (u2 : Addr) (u3 : Addr) (ucs : Int32) (h0 : Heap) (n0 : Nat) (Z0 : n0 ≤ h0.size) (us0 : Sta Z h0 "com/example/cordon/cordon/Ending" "CURED" "Lcom/example/cordon/cordon/Ending;" (.ref u0)) (us1 : Sta Z h0 "com/example/cordon/cordon/Ending" "OUTBREAKS" "Lcom/example/cordon/cordon/Ending;" (.ref u1)) (us2 : Sta Z h0 "com/example/cordon/cordon/Ending" "CUBES" "Lcom/example/cordon/cordon/Ending;" (.ref u2)) (us3 : Sta Z h0 "com/example/cordon/cordon/Ending" "CARDS" "Lcom/example/cordon/cordon/Ending;" (.ref u3)) (ux0 : Exa Z h0 u0 "com/example/cordon/cordon/Ending") (ux1 : Exa Z h0 u1 "com/example/cordon/cordon/Ending") (ux2 : Exa Z h0 u2 "com/example/cordon/cordon/Ending") (ux3 : Exa Z h0 u3 "com/example/cordon/cordon/Ending") (uf0 : Fld Z h0 u0 "com/example/cordon/cordon/Ending" "won" "Z" (.int 1)) (uf1 : Fld Z h0 u1 "com/example/cordon/cordon/Ending" "won" "Z" (.int 0)) (uf2 : Fld Z h0 u2 "com/example/cordon/cordon/Ending" "won" "Z" (.int 0)) (uf3 : Fld Z h0 u3 "com/example/cordon/cordon/Ending" "won" "Z" (.int 0)) (uc : Sta Z h0 "java/lang/String" "COMPACT_STRINGS" "Z" (.int ucs)) (uncs : ¬ (ucs = (0 : Int32))) :
    MetFree l x (head1 (Jvm.Cond.code x code maxLocals ret :: ws) room_1) (fun a U => a = #[(.int p0)] ∧ Z.Warmed39 U.vm ∧ U.heap = h0 ∧ CHv Z own_EL U.vm h0) (fun _ _ _ _ _ => True) (fun _ U o U' => ∃ v L, o = .returned v ∧ own_QL (some (.int (own_f0 p0))) n0 v U'.heap L ∧ CHr Z own_EL U.vm U.heap U'.vm U'.heap ∧ ReturnedEndW U o U' L 8 4160) := by
  refine MetFree.of_bodySF (plainFor_of_name pn_0) hisR ?_
  intro p e s m args below meth c s₁ Bd hml0 hP hK
  obtain ⟨rfl, hZ, hh, hCH⟩ := hP
  have hx := Bd.exec
  have hby := Bd.bytes
  have hml : c.maxLocals = 5 := hml0
  have hown : s.vm.findClass "com/example/cordon/cordon/EndingResultPinLaw" = some m.cls := findClass_of_methodNamed Bd.named
  have hnm := (name_of_methodNamed Bd.named Bd.method).1
  have hlk : meth.locks = false := BodyLoose.notSynchronized Bd
  have X0 : Stand p l e room_1 s m #[(.int p0)] below meth c s₁ [] 0 0 := Stand.of_body Bd
  have e0 : s₁.heap = h0 := by rw [← hh, Bd.state]; rfl
  have N0 := Fr.nil n0
  show own_FinW Z own_EL p.tables e below s (own_QL (some (.int (own_f0 p0))) n0) 8 4160 (s₁.setTop (entryFrame m #[(.int p0)] maxLocals))
  rw [ef_0]
  obtain ⟨s00, es00⟩ : ∃ z : State, z = s := ⟨s, rfl⟩
  rw [← es00]
  have hS0 : own_Wb s00 s 0 := by rw [es00]; exact own_Wb.start s
  have hk0 : 0 ≤ h0.size := Nat.zero_le _
  have hC0 : CHr Z own_EL s00.vm s00.heap s.vm h0 := by rw [es00, hh]; exact CHr.refl hCH
  show own_FinW _ _ _ _ _ _ _ _ _ (s₁.setTop (mkF m 0 #[.val (.int p0), .unset, .unset, .unset, .unset] []))
  refine own_goW (fun _ k => XS.iloadN X0.here hx rfl (hb hby at_0) rfl k) ?_
  show own_FinW _ _ _ _ _ _ _ _ _ (s₁.setTop (mkF m 1 #[.val (.int p0), .unset, .unset, .unset, .unset] [(.int p0)]))
  refine own_goW (fun _ k => XS.iconst X0.here hx rfl (hb hby at_1) k) ?_
  show own_FinW _ _ _ _ _ _ _ _ _ (s₁.setTop (mkF m 2 #[.val (.int p0), .unset, .unset, .unset, .unset] [(.int (3 : Int32)), (.int p0)]))
  refine own_goW (fun _ k => XS.iand X0.here hx rfl (hb hby at_2) rfl k) ?_
  show own_FinW _ _ _ _ _ _ _ _ _ (s₁.setTop (mkF m 3 #[.val (.int p0), .unset, .unset, .unset, .unset] [(.int (p0 &&& (3 : Int32)))]))
  refine own_goW (fun _ k => XS.istoreN X0.here hx rfl (hb hby at_3) rfl (l' := #[.val (.int p0), .val (.int (p0 &&& (3 : Int32))), .unset, .unset, .unset]) rfl k) ?_
  show own_FinW _ _ _ _ _ _ _ _ _ (s₁.setTop (mkF m 4 #[.val (.int p0), .val (.int (p0 &&& (3 : Int32))), .unset, .unset, .unset] []))
  by_cases hs1 : (p0 &&& (3 : Int32)) = (0 : Int32)
  · try rw [hs1]
    show own_FinW _ _ _ _ _ _ _ _ _ (s₁.setTop (mkF m 4 #[.val (.int p0), .val (.int (0 : Int32)), .unset, .unset, .unset] []))
    refine own_goW (fun _ k => XS.iloadN X0.here hx rfl (hb hby at_4) rfl k) ?_
    show own_FinW _ _ _ _ _ _ _ _ _ (s₁.setTop (mkF m 5 #[.val (.int p0), .val (.int (0 : Int32)), .unset, .unset, .unset] [(.int (0 : Int32))]))
    obtain ⟨_, _, ⟨T2, L2, k2, n2⟩, -, X2, ⟨Lc2, hQ2, l2, y2, z2⟩, st2⟩ := Jvm.LawKit.callS X0 hx (y := (⟨"com/example/cordon/cordon/EndingResultPinLaw", "pick", "(I)Lcom/example/cordon/cordon/Ending;"⟩ : MethodName)) hown (mvT hZ (hw _ (List.mem_of_getElem? (i := 0) rfl))) (mvT hZ (hw _ (List.mem_of_getElem? (i := 1) rfl))) (mvT hZ (hw _ (List.mem_of_getElem? (i := 2) rfl))) (mvT hZ (hw _ (List.mem_of_getElem? (i := 3) rfl))) (by decide) (backOf (W := 0) (rm1k0 l Z a0 hw [] (0 : Int32) u0 h0 n0 Z0 us0 rfl) hZ (hw _ (List.mem_of_getElem? (i := 3) rfl)) (hw _ (List.mem_of_getElem? (i := 2) rfl)) (by decide) (by decide)) (g := (mkF m 5 #[.val (.int p0), .val (.int (0 : Int32)), .unset, .unset, .unset] [(.int (0 : Int32))])) rfl (by rw [hml]; rfl) (argsL := [(.int (0 : Int32))]) (rest := []) (lenOf own_pd89 rfl) rfl (by show 2 * 0 + _ ≤ _; exact Nat.le_of_eq rfl) (hb hby at_5) (fun _ _ => ⟨rfl, e0, (by decide : 0 + 0 ≤ _), (by decide : 0 + 0 ≤ _)⟩)
    dsimp only [Pt.U, Pt.locs, Pt.cells, Pt.slots] at X2 l2 y2 z2 st2 hQ2
    replace y2 : 0 = k2 := y2.symm
    replace z2 : 0 = n2 := z2.symm
    subst y2 z2
    obtain ⟨rfl, N2q, e2⟩ := hQ2
    have N2 : Fr n0 L2 := by rw [l2]; exact Fr.app N0 N2q
    refine own_goW (fun tg k => st2 tg k) ?_
    show own_FinW _ _ _ _ _ _ _ _ _ (T2.setTop (mkF m 8 #[.val (.int p0), .val (.int (0 : Int32)), .unset, .unset, .unset] [(.ref u0)]))
    refine own_goW (fun _ k => XS.astoreN X2.here hx rfl (hb hby at_8) rfl rfl (l' := #[.val (.int p0), .val (.int (0 : Int32)), .val (.ref u0), .unset, .unset]) rfl k) ?_
    show own_FinW _ _ _ _ _ _ _ _ _ (T2.setTop (mkF m 9 #[.val (.int p0), .val (.int (0 : Int32)), .val (.ref u0), .unset, .unset] []))
    refine own_goW (fun _ k => XS.aloadN X2.here hx rfl (hb hby at_9) rfl rfl k) ?_
    show own_FinW _ _ _ _ _ _ _ _ _ (T2.setTop (mkF m 10 #[.val (.int p0), .val (.int (0 : Int32)), .val (.ref u0), .unset, .unset] [(.ref u0)]))
    obtain ⟨cq3, kq3, q3a, q3b, q3c⟩ := isOf hZ e2 ux0
    obtain ⟨_, _, ⟨T3, L3, k3, n3⟩, -, X3, hSi3, hgr3, ⟨Lc3, hQ3, l3, y3, z3, hCq3⟩, st3⟩ := X2.virtualBackS hx (y := (⟨"com/example/cordon/cordon/Ending", "result", "()Ljava/lang/String;"⟩ : MethodName)) (z := (⟨"com/example/cordon/cordon/Ending", "result", "()Ljava/lang/String;"⟩ : MethodName)) hown (mvT hZ (hw _ (List.mem_of_getElem? (i := 7) rfl))) (mvT hZ (hw _ (List.mem_of_getElem? (i := 8) rfl))) (notFace_of_selects (args := #[]) (mvT hZ (hw _ (List.mem_of_getElem? (i := 10) rfl)))) (mvT hZ (hw _ (List.mem_of_getElem? (i := 10) rfl))) (mvT hZ (hw _ (List.mem_of_getElem? (i := 9) rfl))) (by decide) (backOfSH (s := s) (vm0 := s.vm) (W := 0) (rm2w l Z a0 hw [] u0 h0 n0 Z0 uf0) hZ (hw _ (List.mem_of_getElem? (i := 11) rfl)) (hw _ (List.mem_of_getElem? (i := 5) rfl)) (by decide) (by decide) (own_EW hw) hC0.1) q3a q3c (g := (mkF m 10 #[.val (.int p0), .val (.int (0 : Int32)), .val (.ref u0), .unset, .unset] [(.ref u0)])) rfl (by rw [hml]; rfl) (Steps.refl _) (argsL := []) (rest := []) (lenOf own_pd90 rfl) rfl (by show 2 * 0 + _ ≤ _; exact Nat.le_of_eq rfl) (hb hby at_10) (fun _ _ => ⟨rfl, e2, (by decide : 0 + 2 ≤ _), (by decide : 0 + 16 ≤ _)⟩)
    dsimp only [Pt.U, Pt.locs, Pt.cells, Pt.slots] at hSi3 hgr3 hCq3
    dsimp only [Pt.U, Pt.locs, Pt.cells, Pt.slots] at X3 l3 y3 z3 st3 hQ3
    replace y3 : 2 = k3 := y3.symm
    replace z3 : 16 = n3 := z3.symm
    subst y3 z3
    have hS3 := own_Wb.next hS0 (show _ ≤ T2.heap.size from by rw [e2]; exact hk0) hSi3 hgr3
    have hZ : Z.Warmed39 (s.setVm T3.vm).vm := State.Warmed39.trans hZ hSi3.1
    have hown : (s.setVm T3.vm).vm.findClass "com/example/cordon/cordon/EndingResultPinLaw" = some m.cls := by rw [show (s.setVm T3.vm).vm = T3.vm from rfl, hSi3.1.alike.findClass]; exact hown
    have hC3 : CHr Z own_EL s00.vm s00.heap (s.setVm T3.vm).vm T3.heap := CHr.trans hC0 hCq3
    have hk3 : T3.heap.size ≤ T3.heap.size := Nat.le_refl _
    obtain ⟨s, es3⟩ : ∃ z : State, z = s.setVm T3.vm := ⟨_, rfl⟩
    rw [← es3] at X3 hS3 hZ hown hC3
    obtain ⟨ra3, rb3, rfl, N3q, Kq3, E_ra3_3, F_coder_ra3_3, F_value_ra3_3, A_rb3_3⟩ := hQ3
    have N3 : Fr n0 L3 := by rw [l3]; exact Fr.app N2 N3q
    have S_CURED_3 := own_stak us0 Kq3
    have E_u0_3 := ux0.keep Kq3
    have F_won_u0_3 := uf0.keep Kq3 nin0
    have S_OUTBREAKS_3 := own_stak us1 Kq3
    have E_u1_3 := ux1.keep Kq3
    have F_won_u1_3 := uf1.keep Kq3 nin0
    have S_CUBES_3 := own_stak us2 Kq3
    have E_u2_3 := ux2.keep Kq3
    have F_won_u2_3 := uf2.keep Kq3 nin0
    have S_CARDS_3 := own_stak us3 Kq3
    have E_u3_3 := ux3.keep Kq3
    have F_won_u3_3 := uf3.keep Kq3 nin0
    have S_COMPACT_STRINGS_3 := own_stak uc Kq3
    have Z3 : n0 ≤ T3.heap.size := Nat.le_trans Z0 Kq3.1
    refine own_goW (fun tg k => st3.trans k) ?_
    show own_FinW _ _ _ _ _ _ _ _ _ (T3.setTop (mkF m 13 #[.val (.int p0), .val (.int (0 : Int32)), .val (.ref u0), .unset, .unset] [(.ref ra3)]))
    refine own_goW (fun _ k => XS.astoreN X3.here hx rfl (hb hby at_13) rfl rfl (l' := #[.val (.int p0), .val (.int (0 : Int32)), .val (.ref u0), .val (.ref ra3), .unset]) rfl k) ?_
    show own_FinW _ _ _ _ _ _ _ _ _ (T3.setTop (mkF m 14 #[.val (.int p0), .val (.int (0 : Int32)), .val (.ref u0), .val (.ref ra3), .unset] []))
    refine own_goW (fun _ k => XS.iloadN X3.here hx rfl (hb hby at_14) rfl k) ?_
    show own_FinW _ _ _ _ _ _ _ _ _ (T3.setTop (mkF m 15 #[.val (.int p0), .val (.int (0 : Int32)), .val (.ref u0), .val (.ref ra3), .unset] [(.int (0 : Int32))]))
    refine own_goW (fun _ k => XS.ifNo X3.here hx rfl (hb hby at_15) rfl ((if0 _ _).trans (teq (by decide)).2) k) ?_
    show own_FinW _ _ _ _ _ _ _ _ _ (T3.setTop (mkF m 18 #[.val (.int p0), .val (.int (0 : Int32)), .val (.ref u0), .val (.ref ra3), .unset] []))
    obtain ⟨a4, T4, h4, k4, s, b4, X4, e4, E4, hS4, hk4, hZ, hown, hC4, E_a4_4, F_coder_a4_4, F_value_a4_4, A_b4_4, st4⟩ := own_ldcC X3 hx hZ hown (hw _ (List.mem_of_getElem? (i := 22) rfl)) (own_wS hw) rfl hS3 hk3 (own_EW hw) (List.mem_of_getElem? (i := 2) rfl) hC3 ⟨by decide, rfl⟩ (z := (3 : Int32)) (by decide) rfl (f := fun i => .int (own_won i)) own_won_ok (g := (mkF m 18 #[.val (.int p0), .val (.int (0 : Int32)), .val (.ref u0), .val (.ref ra3), .unset] [])) rfl (hb hby at_18) (n := 12) (by decide) (by decide) (by decide) (by decide)
    have S_CURED_4 := S_CURED_3.ext E4
    have E_u0_4 := E_u0_3.ext E4
    have F_won_u0_4 := F_won_u0_3.ext E4
    have S_OUTBREAKS_4 := S_OUTBREAKS_3.ext E4
    have E_u1_4 := E_u1_3.ext E4
    have F_won_u1_4 := F_won_u1_3.ext E4
    have S_CUBES_4 := S_CUBES_3.ext E4
    have E_u2_4 := E_u2_3.ext E4
    have F_won_u2_4 := F_won_u2_3.ext E4
    have S_CARDS_4 := S_CARDS_3.ext E4
    have E_u3_4 := E_u3_3.ext E4
    have F_won_u3_4 := F_won_u3_3.ext E4
    have S_COMPACT_STRINGS_4 := S_COMPACT_STRINGS_3.ext E4
    have E_ra3_4 := E_ra3_3.ext E4
    have F_coder_ra3_4 := F_coder_ra3_3.ext E4
    have F_value_ra3_4 := F_value_ra3_3.ext E4
    have A_rb3_4 := A_rb3_3.ext E4
    have Z4 : n0 ≤ h4.size := Nat.le_trans Z3 E4.1
    refine own_goW (fun tg k => st4 tg k) ?_
    show own_FinW _ _ _ _ _ _ _ _ _ (T4.setTop (mkF m 20 #[.val (.int p0), .val (.int (0 : Int32)), .val (.ref u0), .val (.ref ra3), .unset] [(.ref a4)]))
    refine own_goW (fun _ k => XS.goto X4.here hx rfl (pc0 := 20) (pc' := 25) rfl (hb hby at_20) (by decide) (by decide) k) ?_
    show own_FinW _ _ _ _ _ _ _ _ _ (T4.setTop (mkF m 25 #[.val (.int p0), .val (.int (0 : Int32)), .val (.ref u0), .val (.ref ra3), .unset] [(.ref a4)]))
    refine own_goW (fun _ k => XS.astore X4.here hx rfl (hb hby at_25) rfl rfl (l' := #[.val (.int p0), .val (.int (0 : Int32)), .val (.ref u0), .val (.ref ra3), .val (.ref a4)]) rfl k) ?_
    show own_FinW _ _ _ _ _ _ _ _ _ (T4.setTop (mkF m 27 #[.val (.int p0), .val (.int (0 : Int32)), .val (.ref u0), .val (.ref ra3), .val (.ref a4)] []))
    refine own_goW (fun _ k => XS.aloadN X4.here hx rfl (hb hby at_27) rfl rfl k) ?_
    show own_FinW _ _ _ _ _ _ _ _ _ (T4.setTop (mkF m 28 #[.val (.int p0), .val (.int (0 : Int32)), .val (.ref u0), .val (.ref ra3), .val (.ref a4)] [(.ref ra3)]))
    refine own_goW (fun _ k => XS.ifnonnullYes X4.here hx rfl (pc0 := 28) (pc' := 33) rfl (hb hby at_28) rfl (by decide) (by decide) k) ?_
    show own_FinW _ _ _ _ _ _ _ _ _ (T4.setTop (mkF m 33 #[.val (.int p0), .val (.int (0 : Int32)), .val (.ref u0), .val (.ref ra3), .val (.ref a4)] []))
    refine own_goW (fun _ k => XS.aloadN X4.here hx rfl (hb hby at_33) rfl rfl k) ?_
    show own_FinW _ _ _ _ _ _ _ _ _ (T4.setTop (mkF m 34 #[.val (.int p0), .val (.int (0 : Int32)), .val (.ref u0), .val (.ref ra3), .val (.ref a4)] [(.ref ra3)]))
    refine own_goW (fun _ k => XS.aload X4.here hx rfl (hb hby at_34) rfl rfl k) ?_
    show own_FinW _ _ _ _ _ _ _ _ _ (T4.setTop (mkF m 36 #[.val (.int p0), .val (.int (0 : Int32)), .val (.ref u0), .val (.ref ra3), .val (.ref a4)] [(.ref a4), (.ref ra3)]))
    obtain ⟨cq5, kq5, q5a, q5b, q5c⟩ := isOf hZ e4 E_ra3_4
    obtain ⟨_, _, ⟨T5, L5, k5, n5⟩, -, X5, ⟨Lc5, hQ5, l5, y5, z5⟩, st5⟩ := X4.virtualBack hx (y := (⟨"java/lang/String", "equals", "(Ljava/lang/Object;)Z"⟩ : MethodName)) (z := (⟨"java/lang/String", "equals", "(Ljava/lang/Object;)Z"⟩ : MethodName)) hown (mvT hZ (hw _ (List.mem_of_getElem? (i := 23) rfl))) (mvT hZ (hw _ (List.mem_of_getElem? (i := 24) rfl))) (notFace_of_selects (args := #[]) (mvT hZ (hw _ (List.mem_of_getElem? (i := 26) rfl)))) (mvT hZ (hw _ (List.mem_of_getElem? (i := 26) rfl))) (mvT hZ (hw _ (List.mem_of_getElem? (i := 25) rfl))) (by decide) (backOf (W := 0) (rm3e3 l Z a0 hw [] ra3 a4 rb3 b4 ucs own_won h4 n0 Z4 E_ra3_4 F_coder_ra3_4 F_value_ra3_4 A_rb3_4 E_a4_4 F_coder_a4_4 F_value_a4_4 A_b4_4 S_COMPACT_STRINGS_4 uncs) hZ (hw _ (List.mem_of_getElem? (i := 27) rfl)) (hw _ (List.mem_of_getElem? (i := 15) rfl)) (by decide) (by decide)) q5a q5c (g := (mkF m 36 #[.val (.int p0), .val (.int (0 : Int32)), .val (.ref u0), .val (.ref ra3), .val (.ref a4)] [(.ref a4), (.ref ra3)])) rfl (by rw [hml]; rfl) (Steps.refl _) (argsL := [(.ref a4)]) (rest := []) (lenOf own_pd91 rfl) rfl (by show 2 * 0 + _ ≤ _; exact Nat.le_of_eq rfl) (hb hby at_36) (fun _ _ => ⟨rfl, e4, (by decide : 4 + 0 ≤ _), (by decide : 32 + 0 ≤ _)⟩)
    dsimp only [Pt.U, Pt.locs, Pt.cells, Pt.slots] at X5 l5 y5 z5 st5 hQ5
    replace y5 : 4 = k5 := y5.symm
    replace z5 : 32 = n5 := z5.symm
    subst y5 z5
    obtain ⟨rfl, N5q, e5⟩ := hQ5
    have N5 : Fr n0 L5 := by rw [l5]; exact Fr.app N3 N5q
    refine own_goW (fun tg k => st5.trans k) ?_
    show own_FinW _ _ _ _ _ _ _ _ _ (T5.setTop (mkF m 39 #[.val (.int p0), .val (.int (0 : Int32)), .val (.ref u0), .val (.ref ra3), .val (.ref a4)] [(.int (1 : Int32))]))
    refine own_goW (fun _ k => XS.ifNo X5.here hx rfl (hb hby at_39) rfl ((if0 _ _).trans (feq (by decide)).1) k) ?_
    show own_FinW _ _ _ _ _ _ _ _ _ (T5.setTop (mkF m 42 #[.val (.int p0), .val (.int (0 : Int32)), .val (.ref u0), .val (.ref ra3), .val (.ref a4)] []))
    refine own_goW (fun _ k => XS.aloadN X5.here hx rfl (hb hby at_42) rfl rfl k) ?_
    show own_FinW _ _ _ _ _ _ _ _ _ (T5.setTop (mkF m 43 #[.val (.int p0), .val (.int (0 : Int32)), .val (.ref u0), .val (.ref ra3), .val (.ref a4)] [(.ref u0)]))
    obtain ⟨cq6, kq6, q6a, q6b, q6c⟩ := isOf hZ e5 E_u0_4
    obtain ⟨_, _, ⟨T6, L6, k6, n6⟩, -, X6, ⟨Lc6, hQ6, l6, y6, z6⟩, st6⟩ := X5.virtualBack hx (y := (⟨"com/example/cordon/cordon/Ending", "won", "()Z"⟩ : MethodName)) (z := (⟨"com/example/cordon/cordon/Ending", "won", "()Z"⟩ : MethodName)) hown (mvT hZ (hw _ (List.mem_of_getElem? (i := 28) rfl))) (mvT hZ (hw _ (List.mem_of_getElem? (i := 29) rfl))) (notFace_of_selects (args := #[]) (mvT hZ (hw _ (List.mem_of_getElem? (i := 31) rfl)))) (mvT hZ (hw _ (List.mem_of_getElem? (i := 31) rfl))) (mvT hZ (hw _ (List.mem_of_getElem? (i := 30) rfl))) (by decide) (backOf (W := 0) (rm4 l Z a0 hw [] u0 (1 : Int32) h4 n0 Z4 F_won_u0_4 (Or.inr rfl)) hZ (hw _ (List.mem_of_getElem? (i := 32) rfl)) (hw _ (List.mem_of_getElem? (i := 5) rfl)) (by decide) (by decide)) q6a q6c (g := (mkF m 43 #[.val (.int p0), .val (.int (0 : Int32)), .val (.ref u0), .val (.ref ra3), .val (.ref a4)] [(.ref u0)])) rfl (by rw [hml]; rfl) (Steps.refl _) (argsL := []) (rest := []) (lenOf own_pd92 rfl) rfl (by show 2 * 0 + _ ≤ _; exact Nat.le_of_eq rfl) (hb hby at_43) (fun _ _ => ⟨rfl, e5, (by decide : 4 + 0 ≤ _), (by decide : 32 + 0 ≤ _)⟩)
    dsimp only [Pt.U, Pt.locs, Pt.cells, Pt.slots] at X6 l6 y6 z6 st6 hQ6
    replace y6 : 4 = k6 := y6.symm
    replace z6 : 32 = n6 := z6.symm
    subst y6 z6
    obtain ⟨rfl, N6q, e6⟩ := hQ6
    have N6 : Fr n0 L6 := by rw [l6]; exact Fr.app N5 N6q
    refine own_goW (fun tg k => st6.trans k) ?_
    show own_FinW _ _ _ _ _ _ _ _ _ (T6.setTop (mkF m 46 #[.val (.int p0), .val (.int (0 : Int32)), .val (.ref u0), .val (.ref ra3), .val (.ref a4)] [(.int (1 : Int32))]))
    refine own_goW (fun _ k => XS.aloadN X6.here hx rfl (hb hby at_46) rfl rfl k) ?_
    show own_FinW _ _ _ _ _ _ _ _ _ (T6.setTop (mkF m 47 #[.val (.int p0), .val (.int (0 : Int32)), .val (.ref u0), .val (.ref ra3), .val (.ref a4)] [(.ref ra3), (.int (1 : Int32))]))
    obtain ⟨a7, T7, h7, k7, s, b7, X7, e7, E7, hS7, hk7, hZ, hown, hC7, E_a7_7, F_coder_a7_7, F_value_a7_7, A_b7_7, st7⟩ := own_ldcC X6 hx hZ hown (hw _ (List.mem_of_getElem? (i := 22) rfl)) (own_wS hw) e6 hS4 hk4 (own_EW hw) (List.mem_of_getElem? (i := 2) rfl) hC4 ⟨by decide, rfl⟩ (z := (3 : Int32)) (by decide) rfl (f := fun i => .int (own_won i)) own_won_ok (g := (mkF m 47 #[.val (.int p0), .val (.int (0 : Int32)), .val (.ref u0), .val (.ref ra3), .val (.ref a4)] [(.ref ra3), (.int (1 : Int32))])) rfl (hb hby at_47) (n := 12) (by decide) (by decide) (by decide) (by decide)
    have S_CURED_7 := S_CURED_4.ext E7
    have E_u0_7 := E_u0_4.ext E7
    have F_won_u0_7 := F_won_u0_4.ext E7
    have S_OUTBREAKS_7 := S_OUTBREAKS_4.ext E7
    have E_u1_7 := E_u1_4.ext E7
    have F_won_u1_7 := F_won_u1_4.ext E7
    have S_CUBES_7 := S_CUBES_4.ext E7
    have E_u2_7 := E_u2_4.ext E7
    have F_won_u2_7 := F_won_u2_4.ext E7
    have S_CARDS_7 := S_CARDS_4.ext E7
    have E_u3_7 := E_u3_4.ext E7
    have F_won_u3_7 := F_won_u3_4.ext E7
    have S_COMPACT_STRINGS_7 := S_COMPACT_STRINGS_4.ext E7
    have E_ra3_7 := E_ra3_4.ext E7
    have F_coder_ra3_7 := F_coder_ra3_4.ext E7
    have F_value_ra3_7 := F_value_ra3_4.ext E7
    have A_rb3_7 := A_rb3_4.ext E7
    have E_a4_7 := E_a4_4.ext E7
    have F_coder_a4_7 := F_coder_a4_4.ext E7
    have F_value_a4_7 := F_value_a4_4.ext E7
    have A_b4_7 := A_b4_4.ext E7
    have Z7 : n0 ≤ h7.size := Nat.le_trans Z4 E7.1
    refine own_goW (fun tg k => st7 tg k) ?_
    show own_FinW _ _ _ _ _ _ _ _ _ (T7.setTop (mkF m 49 #[.val (.int p0), .val (.int (0 : Int32)), .val (.ref u0), .val (.ref ra3), .val (.ref a4)] [(.ref a7), (.ref ra3), (.int (1 : Int32))]))
    obtain ⟨cq8, kq8, q8a, q8b, q8c⟩ := isOf hZ e7 E_ra3_7
    obtain ⟨_, _, ⟨T8, L8, k8, n8⟩, -, X8, ⟨Lc8, hQ8, l8, y8, z8⟩, st8⟩ := X7.virtualBack hx (y := (⟨"java/lang/String", "equals", "(Ljava/lang/Object;)Z"⟩ : MethodName)) (z := (⟨"java/lang/String", "equals", "(Ljava/lang/Object;)Z"⟩ : MethodName)) hown (mvT hZ (hw _ (List.mem_of_getElem? (i := 23) rfl))) (mvT hZ (hw _ (List.mem_of_getElem? (i := 24) rfl))) (notFace_of_selects (args := #[]) (mvT hZ (hw _ (List.mem_of_getElem? (i := 26) rfl)))) (mvT hZ (hw _ (List.mem_of_getElem? (i := 26) rfl))) (mvT hZ (hw _ (List.mem_of_getElem? (i := 25) rfl))) (by decide) (backOf (W := 1) (rm3e3 l Z a0 hw [] ra3 a7 rb3 b7 ucs own_won h7 n0 Z7 E_ra3_7 F_coder_ra3_7 F_value_ra3_7 A_rb3_7 E_a7_7 F_coder_a7_7 F_value_a7_7 A_b7_7 S_COMPACT_STRINGS_7 uncs) hZ (hw _ (List.mem_of_getElem? (i := 27) rfl)) (hw _ (List.mem_of_getElem? (i := 15) rfl)) (by decide) (by decide)) q8a q8c (g := (mkF m 49 #[.val (.int p0), .val (.int (0 : Int32)), .val (.ref u0), .val (.ref ra3), .val (.ref a4)] [(.ref a7), (.ref ra3), (.int (1 : Int32))])) rfl (by rw [hml]; rfl) (Steps.refl _) (argsL := [(.ref a7)]) (rest := [(.int (1 : Int32))]) (lenOf own_pd91 rfl) rfl (by show 2 * 0 + _ ≤ _; exact Nat.le_of_eq rfl) (hb hby at_49) (fun _ _ => ⟨rfl, e7, (by decide : 6 + 0 ≤ _), (by decide : 48 + 0 ≤ _)⟩)
    dsimp only [Pt.U, Pt.locs, Pt.cells, Pt.slots] at X8 l8 y8 z8 st8 hQ8
    replace y8 : 6 = k8 := y8.symm
    replace z8 : 48 = n8 := z8.symm
    subst y8 z8
    obtain ⟨rfl, N8q, e8⟩ := hQ8
    have N8 : Fr n0 L8 := by rw [l8]; exact Fr.app N6 N8q
    refine own_goW (fun tg k => st8.trans k) ?_
    show own_FinW _ _ _ _ _ _ _ _ _ (T8.setTop (mkF m 52 #[.val (.int p0), .val (.int (0 : Int32)), .val (.ref u0), .val (.ref ra3), .val (.ref a4)] [(.int (1 : Int32)), (.int (1 : Int32))]))
    refine own_goW (fun _ k => XS.icmpNo X8.here hx rfl (hb hby at_52) rfl (teq (by decide)).2 k) ?_
    show own_FinW _ _ _ _ _ _ _ _ _ (T8.setTop (mkF m 55 #[.val (.int p0), .val (.int (0 : Int32)), .val (.ref u0), .val (.ref ra3), .val (.ref a4)] []))
    refine own_goW (fun _ k => XS.iconst X8.here hx rfl (hb hby at_55) k) ?_
    show own_FinW _ _ _ _ _ _ _ _ _ (T8.setTop (mkF m 56 #[.val (.int p0), .val (.int (0 : Int32)), .val (.ref u0), .val (.ref ra3), .val (.ref a4)] [(.int (1 : Int32))]))
    refine own_goW (fun _ k => XS.goto X8.here hx rfl (pc0 := 56) (pc' := 60) rfl (hb hby at_56) (by decide) (by decide) k) ?_
    show own_FinW _ _ _ _ _ _ _ _ _ (T8.setTop (mkF m 60 #[.val (.int p0), .val (.int (0 : Int32)), .val (.ref u0), .val (.ref ra3), .val (.ref a4)] [(.int (1 : Int32))]))
    refine own_retW X8 hx hlk hS7 (by rw [e8]; exact hk7) Bd.returns rfl (Or.inl ⟨rfl, by simp, _, rfl⟩) (hb hby at_60) (Nat.le_of_ble_eq_true rfl) (Nat.le_of_ble_eq_true rfl) (own_chT X8 hZ hS7 (own_EW hw) e8 hC7) ?_
    exact ⟨(own_lf_own_f0_1 (p0 := p0) hs1), N8, trivial⟩
  · by_cases hs9 : (p0 &&& (3 : Int32)) = (1 : Int32)
    · try rw [hs9]
      show own_FinW _ _ _ _ _ _ _ _ _ (s₁.setTop (mkF m 4 #[.val (.int p0), .val (.int (1 : Int32)), .unset, .unset, .unset] []))
      refine own_goW (fun _ k => XS.iloadN X0.here hx rfl (hb hby at_4) rfl k) ?_
      show own_FinW _ _ _ _ _ _ _ _ _ (s₁.setTop (mkF m 5 #[.val (.int p0), .val (.int (1 : Int32)), .unset, .unset, .unset] [(.int (1 : Int32))]))
      obtain ⟨_, _, ⟨T10, L10, k10, n10⟩, -, X10, ⟨Lc10, hQ10, l10, y10, z10⟩, st10⟩ := Jvm.LawKit.callS X0 hx (y := (⟨"com/example/cordon/cordon/EndingResultPinLaw", "pick", "(I)Lcom/example/cordon/cordon/Ending;"⟩ : MethodName)) hown (mvT hZ (hw _ (List.mem_of_getElem? (i := 0) rfl))) (mvT hZ (hw _ (List.mem_of_getElem? (i := 1) rfl))) (mvT hZ (hw _ (List.mem_of_getElem? (i := 2) rfl))) (mvT hZ (hw _ (List.mem_of_getElem? (i := 3) rfl))) (by decide) (backOf (W := 0) (rm1k1 l Z a0 hw [] (1 : Int32) u1 h0 n0 Z0 us1 rfl) hZ (hw _ (List.mem_of_getElem? (i := 3) rfl)) (hw _ (List.mem_of_getElem? (i := 2) rfl)) (by decide) (by decide)) (g := (mkF m 5 #[.val (.int p0), .val (.int (1 : Int32)), .unset, .unset, .unset] [(.int (1 : Int32))])) rfl (by rw [hml]; rfl) (argsL := [(.int (1 : Int32))]) (rest := []) (lenOf own_pd89 rfl) rfl (by show 2 * 0 + _ ≤ _; exact Nat.le_of_eq rfl) (hb hby at_5) (fun _ _ => ⟨rfl, e0, (by decide : 0 + 0 ≤ _), (by decide : 0 + 0 ≤ _)⟩)
      dsimp only [Pt.U, Pt.locs, Pt.cells, Pt.slots] at X10 l10 y10 z10 st10 hQ10
      replace y10 : 0 = k10 := y10.symm
      replace z10 : 0 = n10 := z10.symm
      subst y10 z10
      obtain ⟨rfl, N10q, e10⟩ := hQ10
      have N10 : Fr n0 L10 := by rw [l10]; exact Fr.app N0 N10q
      refine own_goW (fun tg k => st10 tg k) ?_
      show own_FinW _ _ _ _ _ _ _ _ _ (T10.setTop (mkF m 8 #[.val (.int p0), .val (.int (1 : Int32)), .unset, .unset, .unset] [(.ref u1)]))
      refine own_goW (fun _ k => XS.astoreN X10.here hx rfl (hb hby at_8) rfl rfl (l' := #[.val (.int p0), .val (.int (1 : Int32)), .val (.ref u1), .unset, .unset]) rfl k) ?_
      show own_FinW _ _ _ _ _ _ _ _ _ (T10.setTop (mkF m 9 #[.val (.int p0), .val (.int (1 : Int32)), .val (.ref u1), .unset, .unset] []))
      refine own_goW (fun _ k => XS.aloadN X10.here hx rfl (hb hby at_9) rfl rfl k) ?_
      show own_FinW _ _ _ _ _ _ _ _ _ (T10.setTop (mkF m 10 #[.val (.int p0), .val (.int (1 : Int32)), .val (.ref u1), .unset, .unset] [(.ref u1)]))
      obtain ⟨cq11, kq11, q11a, q11b, q11c⟩ := isOf hZ e10 ux1
      obtain ⟨_, _, ⟨T11, L11, k11, n11⟩, -, X11, hSi11, hgr11, ⟨Lc11, hQ11, l11, y11, z11, hCq11⟩, st11⟩ := X10.virtualBackS hx (y := (⟨"com/example/cordon/cordon/Ending", "result", "()Ljava/lang/String;"⟩ : MethodName)) (z := (⟨"com/example/cordon/cordon/Ending", "result", "()Ljava/lang/String;"⟩ : MethodName)) hown (mvT hZ (hw _ (List.mem_of_getElem? (i := 7) rfl))) (mvT hZ (hw _ (List.mem_of_getElem? (i := 8) rfl))) (notFace_of_selects (args := #[]) (mvT hZ (hw _ (List.mem_of_getElem? (i := 10) rfl)))) (mvT hZ (hw _ (List.mem_of_getElem? (i := 10) rfl))) (mvT hZ (hw _ (List.mem_of_getElem? (i := 9) rfl))) (by decide) (backOfSH (s := s) (vm0 := s.vm) (W := 0) (rm2l l Z a0 hw [] u1 h0 n0 Z0 uf1) hZ (hw _ (List.mem_of_getElem? (i := 11) rfl)) (hw _ (List.mem_of_getElem? (i := 5) rfl)) (by decide) (by decide) (own_EW hw) hC0.1) q11a q11c (g := (mkF m 10 #[.val (.int p0), .val (.int (1 : Int32)), .val (.ref u1), .unset, .unset] [(.ref u1)])) rfl (by rw [hml]; rfl) (Steps.refl _) (argsL := []) (rest := []) (lenOf own_pd90 rfl) rfl (by show 2 * 0 + _ ≤ _; exact Nat.le_of_eq rfl) (hb hby at_10) (fun _ _ => ⟨rfl, e10, (by decide : 0 + 2 ≤ _), (by decide : 0 + 20 ≤ _)⟩)
      dsimp only [Pt.U, Pt.locs, Pt.cells, Pt.slots] at hSi11 hgr11 hCq11
      dsimp only [Pt.U, Pt.locs, Pt.cells, Pt.slots] at X11 l11 y11 z11 st11 hQ11
      replace y11 : 2 = k11 := y11.symm
      replace z11 : 20 = n11 := z11.symm
      subst y11 z11
      have hS11 := own_Wb.next hS0 (show _ ≤ T10.heap.size from by rw [e10]; exact hk0) hSi11 hgr11
      have hZ : Z.Warmed39 (s.setVm T11.vm).vm := State.Warmed39.trans hZ hSi11.1
      have hown : (s.setVm T11.vm).vm.findClass "com/example/cordon/cordon/EndingResultPinLaw" = some m.cls := by rw [show (s.setVm T11.vm).vm = T11.vm from rfl, hSi11.1.alike.findClass]; exact hown
      have hC11 : CHr Z own_EL s00.vm s00.heap (s.setVm T11.vm).vm T11.heap := CHr.trans hC0 hCq11
      have hk11 : T11.heap.size ≤ T11.heap.size := Nat.le_refl _
      obtain ⟨s, es11⟩ : ∃ z : State, z = s.setVm T11.vm := ⟨_, rfl⟩
      rw [← es11] at X11 hS11 hZ hown hC11
      obtain ⟨ra11, rb11, rfl, N11q, Kq11, E_ra11_11, F_coder_ra11_11, F_value_ra11_11, A_rb11_11⟩ := hQ11
      have N11 : Fr n0 L11 := by rw [l11]; exact Fr.app N10 N11q
      have S_CURED_11 := own_stak us0 Kq11
      have E_u0_11 := ux0.keep Kq11
      have F_won_u0_11 := uf0.keep Kq11 nin0
      have S_OUTBREAKS_11 := own_stak us1 Kq11
      have E_u1_11 := ux1.keep Kq11
      have F_won_u1_11 := uf1.keep Kq11 nin0
      have S_CUBES_11 := own_stak us2 Kq11
      have E_u2_11 := ux2.keep Kq11
      have F_won_u2_11 := uf2.keep Kq11 nin0
      have S_CARDS_11 := own_stak us3 Kq11
      have E_u3_11 := ux3.keep Kq11
      have F_won_u3_11 := uf3.keep Kq11 nin0
      have S_COMPACT_STRINGS_11 := own_stak uc Kq11
      have Z11 : n0 ≤ T11.heap.size := Nat.le_trans Z0 Kq11.1
      refine own_goW (fun tg k => st11.trans k) ?_
      show own_FinW _ _ _ _ _ _ _ _ _ (T11.setTop (mkF m 13 #[.val (.int p0), .val (.int (1 : Int32)), .val (.ref u1), .unset, .unset] [(.ref ra11)]))
      refine own_goW (fun _ k => XS.astoreN X11.here hx rfl (hb hby at_13) rfl rfl (l' := #[.val (.int p0), .val (.int (1 : Int32)), .val (.ref u1), .val (.ref ra11), .unset]) rfl k) ?_
      show own_FinW _ _ _ _ _ _ _ _ _ (T11.setTop (mkF m 14 #[.val (.int p0), .val (.int (1 : Int32)), .val (.ref u1), .val (.ref ra11), .unset] []))
      refine own_goW (fun _ k => XS.iloadN X11.here hx rfl (hb hby at_14) rfl k) ?_
      show own_FinW _ _ _ _ _ _ _ _ _ (T11.setTop (mkF m 15 #[.val (.int p0), .val (.int (1 : Int32)), .val (.ref u1), .val (.ref ra11), .unset] [(.int (1 : Int32))]))
      refine own_goW (fun _ k => XS.ifYes X11.here hx rfl (pc0 := 15) (pc' := 23) rfl (hb hby at_15) rfl ((if0 _ _).trans (feq (by decide)).2) (by decide) (by decide) k) ?_
      show own_FinW _ _ _ _ _ _ _ _ _ (T11.setTop (mkF m 23 #[.val (.int p0), .val (.int (1 : Int32)), .val (.ref u1), .val (.ref ra11), .unset] []))
      obtain ⟨a12, T12, h12, k12, s, b12, X12, e12, E12, hS12, hk12, hZ, hown, hC12, E_a12_12, F_coder_a12_12, F_value_a12_12, A_b12_12, st12⟩ := own_ldcC X11 hx hZ hown (hw _ (List.mem_of_getElem? (i := 36) rfl)) (own_wS hw) rfl hS11 hk11 (own_EW hw) (List.mem_of_getElem? (i := 3) rfl) hC11 ⟨by decide, rfl⟩ (z := (4 : Int32)) (by decide) rfl (f := fun i => .int (own_lost i)) own_lost_ok (g := (mkF m 23 #[.val (.int p0), .val (.int (1 : Int32)), .val (.ref u1), .val (.ref ra11), .unset] [])) rfl (hb hby at_23) (n := 16) (by decide) (by decide) (by decide) (by decide)
      have S_CURED_12 := S_CURED_11.ext E12
      have E_u0_12 := E_u0_11.ext E12
      have F_won_u0_12 := F_won_u0_11.ext E12
      have S_OUTBREAKS_12 := S_OUTBREAKS_11.ext E12
      have E_u1_12 := E_u1_11.ext E12
      have F_won_u1_12 := F_won_u1_11.ext E12
      have S_CUBES_12 := S_CUBES_11.ext E12
      have E_u2_12 := E_u2_11.ext E12
      have F_won_u2_12 := F_won_u2_11.ext E12
      have S_CARDS_12 := S_CARDS_11.ext E12
      have E_u3_12 := E_u3_11.ext E12
      have F_won_u3_12 := F_won_u3_11.ext E12
      have S_COMPACT_STRINGS_12 := S_COMPACT_STRINGS_11.ext E12
      have E_ra11_12 := E_ra11_11.ext E12
      have F_coder_ra11_12 := F_coder_ra11_11.ext E12
      have F_value_ra11_12 := F_value_ra11_11.ext E12
      have A_rb11_12 := A_rb11_11.ext E12
      have Z12 : n0 ≤ h12.size := Nat.le_trans Z11 E12.1
      refine own_goW (fun tg k => st12 tg k) ?_
      show own_FinW _ _ _ _ _ _ _ _ _ (T12.setTop (mkF m 25 #[.val (.int p0), .val (.int (1 : Int32)), .val (.ref u1), .val (.ref ra11), .unset] [(.ref a12)]))
      refine own_goW (fun _ k => XS.astore X12.here hx rfl (hb hby at_25) rfl rfl (l' := #[.val (.int p0), .val (.int (1 : Int32)), .val (.ref u1), .val (.ref ra11), .val (.ref a12)]) rfl k) ?_
      show own_FinW _ _ _ _ _ _ _ _ _ (T12.setTop (mkF m 27 #[.val (.int p0), .val (.int (1 : Int32)), .val (.ref u1), .val (.ref ra11), .val (.ref a12)] []))
      refine own_goW (fun _ k => XS.aloadN X12.here hx rfl (hb hby at_27) rfl rfl k) ?_
      show own_FinW _ _ _ _ _ _ _ _ _ (T12.setTop (mkF m 28 #[.val (.int p0), .val (.int (1 : Int32)), .val (.ref u1), .val (.ref ra11), .val (.ref a12)] [(.ref ra11)]))
      refine own_goW (fun _ k => XS.ifnonnullYes X12.here hx rfl (pc0 := 28) (pc' := 33) rfl (hb hby at_28) rfl (by decide) (by decide) k) ?_
      show own_FinW _ _ _ _ _ _ _ _ _ (T12.setTop (mkF m 33 #[.val (.int p0), .val (.int (1 : Int32)), .val (.ref u1), .val (.ref ra11), .val (.ref a12)] []))
      refine own_goW (fun _ k => XS.aloadN X12.here hx rfl (hb hby at_33) rfl rfl k) ?_
      show own_FinW _ _ _ _ _ _ _ _ _ (T12.setTop (mkF m 34 #[.val (.int p0), .val (.int (1 : Int32)), .val (.ref u1), .val (.ref ra11), .val (.ref a12)] [(.ref ra11)]))
      refine own_goW (fun _ k => XS.aload X12.here hx rfl (hb hby at_34) rfl rfl k) ?_
      show own_FinW _ _ _ _ _ _ _ _ _ (T12.setTop (mkF m 36 #[.val (.int p0), .val (.int (1 : Int32)), .val (.ref u1), .val (.ref ra11), .val (.ref a12)] [(.ref a12), (.ref ra11)]))
      obtain ⟨cq13, kq13, q13a, q13b, q13c⟩ := isOf hZ e12 E_ra11_12
      obtain ⟨_, _, ⟨T13, L13, k13, n13⟩, -, X13, ⟨Lc13, hQ13, l13, y13, z13⟩, st13⟩ := X12.virtualBack hx (y := (⟨"java/lang/String", "equals", "(Ljava/lang/Object;)Z"⟩ : MethodName)) (z := (⟨"java/lang/String", "equals", "(Ljava/lang/Object;)Z"⟩ : MethodName)) hown (mvT hZ (hw _ (List.mem_of_getElem? (i := 23) rfl))) (mvT hZ (hw _ (List.mem_of_getElem? (i := 24) rfl))) (notFace_of_selects (args := #[]) (mvT hZ (hw _ (List.mem_of_getElem? (i := 26) rfl)))) (mvT hZ (hw _ (List.mem_of_getElem? (i := 26) rfl))) (mvT hZ (hw _ (List.mem_of_getElem? (i := 25) rfl))) (by decide) (backOf (W := 0) (rm3e4 l Z a0 hw [] ra11 a12 rb11 b12 ucs own_lost h12 n0 Z12 E_ra11_12 F_coder_ra11_12 F_value_ra11_12 A_rb11_12 E_a12_12 F_coder_a12_12 F_value_a12_12 A_b12_12 S_COMPACT_STRINGS_12 uncs) hZ (hw _ (List.mem_of_getElem? (i := 27) rfl)) (hw _ (List.mem_of_getElem? (i := 15) rfl)) (by decide) (by decide)) q13a q13c (g := (mkF m 36 #[.val (.int p0), .val (.int (1 : Int32)), .val (.ref u1), .val (.ref ra11), .val (.ref a12)] [(.ref a12), (.ref ra11)])) rfl (by rw [hml]; rfl) (Steps.refl _) (argsL := [(.ref a12)]) (rest := []) (lenOf own_pd91 rfl) rfl (by show 2 * 0 + _ ≤ _; exact Nat.le_of_eq rfl) (hb hby at_36) (fun _ _ => ⟨rfl, e12, (by decide : 4 + 0 ≤ _), (by decide : 40 + 0 ≤ _)⟩)
      dsimp only [Pt.U, Pt.locs, Pt.cells, Pt.slots] at X13 l13 y13 z13 st13 hQ13
      replace y13 : 4 = k13 := y13.symm
      replace z13 : 40 = n13 := z13.symm
      subst y13 z13
      obtain ⟨rfl, N13q, e13⟩ := hQ13
      have N13 : Fr n0 L13 := by rw [l13]; exact Fr.app N11 N13q
      refine own_goW (fun tg k => st13.trans k) ?_
      show own_FinW _ _ _ _ _ _ _ _ _ (T13.setTop (mkF m 39 #[.val (.int p0), .val (.int (1 : Int32)), .val (.ref u1), .val (.ref ra11), .val (.ref a12)] [(.int (1 : Int32))]))
      refine own_goW (fun _ k => XS.ifNo X13.here hx rfl (hb hby at_39) rfl ((if0 _ _).trans (feq (by decide)).1) k) ?_
      show own_FinW _ _ _ _ _ _ _ _ _ (T13.setTop (mkF m 42 #[.val (.int p0), .val (.int (1 : Int32)), .val (.ref u1), .val (.ref ra11), .val (.ref a12)] []))
      refine own_goW (fun _ k => XS.aloadN X13.here hx rfl (hb hby at_42) rfl rfl k) ?_
      show own_FinW _ _ _ _ _ _ _ _ _ (T13.setTop (mkF m 43 #[.val (.int p0), .val (.int (1 : Int32)), .val (.ref u1), .val (.ref ra11), .val (.ref a12)] [(.ref u1)]))
      obtain ⟨cq14, kq14, q14a, q14b, q14c⟩ := isOf hZ e13 E_u1_12
      obtain ⟨_, _, ⟨T14, L14, k14, n14⟩, -, X14, ⟨Lc14, hQ14, l14, y14, z14⟩, st14⟩ := X13.virtualBack hx (y := (⟨"com/example/cordon/cordon/Ending", "won", "()Z"⟩ : MethodName)) (z := (⟨"com/example/cordon/cordon/Ending", "won", "()Z"⟩ : MethodName)) hown (mvT hZ (hw _ (List.mem_of_getElem? (i := 28) rfl))) (mvT hZ (hw _ (List.mem_of_getElem? (i := 29) rfl))) (notFace_of_selects (args := #[]) (mvT hZ (hw _ (List.mem_of_getElem? (i := 31) rfl)))) (mvT hZ (hw _ (List.mem_of_getElem? (i := 31) rfl))) (mvT hZ (hw _ (List.mem_of_getElem? (i := 30) rfl))) (by decide) (backOf (W := 0) (rm4 l Z a0 hw [] u1 (0 : Int32) h12 n0 Z12 F_won_u1_12 (Or.inl rfl)) hZ (hw _ (List.mem_of_getElem? (i := 32) rfl)) (hw _ (List.mem_of_getElem? (i := 5) rfl)) (by decide) (by decide)) q14a q14c (g := (mkF m 43 #[.val (.int p0), .val (.int (1 : Int32)), .val (.ref u1), .val (.ref ra11), .val (.ref a12)] [(.ref u1)])) rfl (by rw [hml]; rfl) (Steps.refl _) (argsL := []) (rest := []) (lenOf own_pd92 rfl) rfl (by show 2 * 0 + _ ≤ _; exact Nat.le_of_eq rfl) (hb hby at_43) (fun _ _ => ⟨rfl, e13, (by decide : 4 + 0 ≤ _), (by decide : 40 + 0 ≤ _)⟩)
      dsimp only [Pt.U, Pt.locs, Pt.cells, Pt.slots] at X14 l14 y14 z14 st14 hQ14
      replace y14 : 4 = k14 := y14.symm
      replace z14 : 40 = n14 := z14.symm
      subst y14 z14
      obtain ⟨rfl, N14q, e14⟩ := hQ14
      have N14 : Fr n0 L14 := by rw [l14]; exact Fr.app N13 N14q
      refine own_goW (fun tg k => st14.trans k) ?_
      show own_FinW _ _ _ _ _ _ _ _ _ (T14.setTop (mkF m 46 #[.val (.int p0), .val (.int (1 : Int32)), .val (.ref u1), .val (.ref ra11), .val (.ref a12)] [(.int (0 : Int32))]))
      refine own_goW (fun _ k => XS.aloadN X14.here hx rfl (hb hby at_46) rfl rfl k) ?_
      show own_FinW _ _ _ _ _ _ _ _ _ (T14.setTop (mkF m 47 #[.val (.int p0), .val (.int (1 : Int32)), .val (.ref u1), .val (.ref ra11), .val (.ref a12)] [(.ref ra11), (.int (0 : Int32))]))
      obtain ⟨a15, T15, h15, k15, s, b15, X15, e15, E15, hS15, hk15, hZ, hown, hC15, E_a15_15, F_coder_a15_15, F_value_a15_15, A_b15_15, st15⟩ := own_ldcC X14 hx hZ hown (hw _ (List.mem_of_getElem? (i := 22) rfl)) (own_wS hw) e14 hS12 hk12 (own_EW hw) (List.mem_of_getElem? (i := 2) rfl) hC12 ⟨by decide, rfl⟩ (z := (3 : Int32)) (by decide) rfl (f := fun i => .int (own_won i)) own_won_ok (g := (mkF m 47 #[.val (.int p0), .val (.int (1 : Int32)), .val (.ref u1), .val (.ref ra11), .val (.ref a12)] [(.ref ra11), (.int (0 : Int32))])) rfl (hb hby at_47) (n := 12) (by decide) (by decide) (by decide) (by decide)
      have S_CURED_15 := S_CURED_12.ext E15
      have E_u0_15 := E_u0_12.ext E15
      have F_won_u0_15 := F_won_u0_12.ext E15
      have S_OUTBREAKS_15 := S_OUTBREAKS_12.ext E15
      have E_u1_15 := E_u1_12.ext E15
      have F_won_u1_15 := F_won_u1_12.ext E15
      have S_CUBES_15 := S_CUBES_12.ext E15
      have E_u2_15 := E_u2_12.ext E15
      have F_won_u2_15 := F_won_u2_12.ext E15
      have S_CARDS_15 := S_CARDS_12.ext E15
      have E_u3_15 := E_u3_12.ext E15
      have F_won_u3_15 := F_won_u3_12.ext E15
      have S_COMPACT_STRINGS_15 := S_COMPACT_STRINGS_12.ext E15
      have E_ra11_15 := E_ra11_12.ext E15
      have F_coder_ra11_15 := F_coder_ra11_12.ext E15
      have F_value_ra11_15 := F_value_ra11_12.ext E15
      have A_rb11_15 := A_rb11_12.ext E15
      have E_a12_15 := E_a12_12.ext E15
      have F_coder_a12_15 := F_coder_a12_12.ext E15
      have F_value_a12_15 := F_value_a12_12.ext E15
      have A_b12_15 := A_b12_12.ext E15
      have Z15 : n0 ≤ h15.size := Nat.le_trans Z12 E15.1
      refine own_goW (fun tg k => st15 tg k) ?_
      show own_FinW _ _ _ _ _ _ _ _ _ (T15.setTop (mkF m 49 #[.val (.int p0), .val (.int (1 : Int32)), .val (.ref u1), .val (.ref ra11), .val (.ref a12)] [(.ref a15), (.ref ra11), (.int (0 : Int32))]))
      have hne16 : ra11 ≠ a15 := own_strne F_value_ra11_15 F_value_a15_15 A_rb11_15 A_b15_15 (by decide)
      obtain ⟨cq17, kq17, q17a, q17b, q17c⟩ := isOf hZ e15 E_ra11_15
      obtain ⟨_, _, ⟨T17, L17, k17, n17⟩, -, X17, ⟨Lc17, hQ17, l17, y17, z17⟩, st17⟩ := X15.virtualBack hx (y := (⟨"java/lang/String", "equals", "(Ljava/lang/Object;)Z"⟩ : MethodName)) (z := (⟨"java/lang/String", "equals", "(Ljava/lang/Object;)Z"⟩ : MethodName)) hown (mvT hZ (hw _ (List.mem_of_getElem? (i := 23) rfl))) (mvT hZ (hw _ (List.mem_of_getElem? (i := 24) rfl))) (notFace_of_selects (args := #[]) (mvT hZ (hw _ (List.mem_of_getElem? (i := 26) rfl)))) (mvT hZ (hw _ (List.mem_of_getElem? (i := 26) rfl))) (mvT hZ (hw _ (List.mem_of_getElem? (i := 25) rfl))) (by decide) (backOf (W := 1) (rm3n l Z a0 hw [] ra11 a15 rb11 b15 ucs own_lost own_won h15 n0 Z15 E_ra11_15 F_coder_ra11_15 F_value_ra11_15 A_rb11_15 E_a15_15 F_coder_a15_15 F_value_a15_15 A_b15_15 S_COMPACT_STRINGS_15 uncs hne16) hZ (hw _ (List.mem_of_getElem? (i := 27) rfl)) (hw _ (List.mem_of_getElem? (i := 15) rfl)) (by decide) (by decide)) q17a q17c (g := (mkF m 49 #[.val (.int p0), .val (.int (1 : Int32)), .val (.ref u1), .val (.ref ra11), .val (.ref a12)] [(.ref a15), (.ref ra11), (.int (0 : Int32))])) rfl (by rw [hml]; rfl) (Steps.refl _) (argsL := [(.ref a15)]) (rest := [(.int (0 : Int32))]) (lenOf own_pd91 rfl) rfl (by show 2 * 0 + _ ≤ _; exact Nat.le_of_eq rfl) (hb hby at_49) (fun _ _ => ⟨rfl, e15, (by decide : 6 + 0 ≤ _), (by decide : 56 + 0 ≤ _)⟩)
      dsimp only [Pt.U, Pt.locs, Pt.cells, Pt.slots] at X17 l17 y17 z17 st17 hQ17
      replace y17 : 6 = k17 := y17.symm
      replace z17 : 56 = n17 := z17.symm
      subst y17 z17
      obtain ⟨rfl, N17q, e17⟩ := hQ17
      have N17 : Fr n0 L17 := by rw [l17]; exact Fr.app N14 N17q
      refine own_goW (fun tg k => st17.trans k) ?_
      show own_FinW _ _ _ _ _ _ _ _ _ (T17.setTop (mkF m 52 #[.val (.int p0), .val (.int (1 : Int32)), .val (.ref u1), .val (.ref ra11), .val (.ref a12)] [(.int (0 : Int32)), (.int (0 : Int32))]))
      refine own_goW (fun _ k => XS.icmpNo X17.here hx rfl (hb hby at_52) rfl (teq (by decide)).2 k) ?_
      show own_FinW _ _ _ _ _ _ _ _ _ (T17.setTop (mkF m 55 #[.val (.int p0), .val (.int (1 : Int32)), .val (.ref u1), .val (.ref ra11), .val (.ref a12)] []))
      refine own_goW (fun _ k => XS.iconst X17.here hx rfl (hb hby at_55) k) ?_
      show own_FinW _ _ _ _ _ _ _ _ _ (T17.setTop (mkF m 56 #[.val (.int p0), .val (.int (1 : Int32)), .val (.ref u1), .val (.ref ra11), .val (.ref a12)] [(.int (1 : Int32))]))
      refine own_goW (fun _ k => XS.goto X17.here hx rfl (pc0 := 56) (pc' := 60) rfl (hb hby at_56) (by decide) (by decide) k) ?_
      show own_FinW _ _ _ _ _ _ _ _ _ (T17.setTop (mkF m 60 #[.val (.int p0), .val (.int (1 : Int32)), .val (.ref u1), .val (.ref ra11), .val (.ref a12)] [(.int (1 : Int32))]))
      refine own_retW X17 hx hlk hS15 (by rw [e17]; exact hk15) Bd.returns rfl (Or.inl ⟨rfl, by simp, _, rfl⟩) (hb hby at_60) (Nat.le_of_ble_eq_true rfl) (Nat.le_of_ble_eq_true rfl) (own_chT X17 hZ hS15 (own_EW hw) e17 hC15) ?_
      exact ⟨(own_lf_own_f0_2 (p0 := p0) hs1 hs9), N17, trivial⟩
    · by_cases hs18 : (p0 &&& (3 : Int32)) = (2 : Int32)
      · try rw [hs18]
        show own_FinW _ _ _ _ _ _ _ _ _ (s₁.setTop (mkF m 4 #[.val (.int p0), .val (.int (2 : Int32)), .unset, .unset, .unset] []))
        refine own_goW (fun _ k => XS.iloadN X0.here hx rfl (hb hby at_4) rfl k) ?_
        show own_FinW _ _ _ _ _ _ _ _ _ (s₁.setTop (mkF m 5 #[.val (.int p0), .val (.int (2 : Int32)), .unset, .unset, .unset] [(.int (2 : Int32))]))
        obtain ⟨_, _, ⟨T19, L19, k19, n19⟩, -, X19, ⟨Lc19, hQ19, l19, y19, z19⟩, st19⟩ := Jvm.LawKit.callS X0 hx (y := (⟨"com/example/cordon/cordon/EndingResultPinLaw", "pick", "(I)Lcom/example/cordon/cordon/Ending;"⟩ : MethodName)) hown (mvT hZ (hw _ (List.mem_of_getElem? (i := 0) rfl))) (mvT hZ (hw _ (List.mem_of_getElem? (i := 1) rfl))) (mvT hZ (hw _ (List.mem_of_getElem? (i := 2) rfl))) (mvT hZ (hw _ (List.mem_of_getElem? (i := 3) rfl))) (by decide) (backOf (W := 0) (rm1k2 l Z a0 hw [] (2 : Int32) u2 h0 n0 Z0 us2 rfl) hZ (hw _ (List.mem_of_getElem? (i := 3) rfl)) (hw _ (List.mem_of_getElem? (i := 2) rfl)) (by decide) (by decide)) (g := (mkF m 5 #[.val (.int p0), .val (.int (2 : Int32)), .unset, .unset, .unset] [(.int (2 : Int32))])) rfl (by rw [hml]; rfl) (argsL := [(.int (2 : Int32))]) (rest := []) (lenOf own_pd89 rfl) rfl (by show 2 * 0 + _ ≤ _; exact Nat.le_of_eq rfl) (hb hby at_5) (fun _ _ => ⟨rfl, e0, (by decide : 0 + 0 ≤ _), (by decide : 0 + 0 ≤ _)⟩)
        dsimp only [Pt.U, Pt.locs, Pt.cells, Pt.slots] at X19 l19 y19 z19 st19 hQ19
        replace y19 : 0 = k19 := y19.symm
        replace z19 : 0 = n19 := z19.symm
        subst y19 z19
        obtain ⟨rfl, N19q, e19⟩ := hQ19
        have N19 : Fr n0 L19 := by rw [l19]; exact Fr.app N0 N19q
        refine own_goW (fun tg k => st19 tg k) ?_
        show own_FinW _ _ _ _ _ _ _ _ _ (T19.setTop (mkF m 8 #[.val (.int p0), .val (.int (2 : Int32)), .unset, .unset, .unset] [(.ref u2)]))
        refine own_goW (fun _ k => XS.astoreN X19.here hx rfl (hb hby at_8) rfl rfl (l' := #[.val (.int p0), .val (.int (2 : Int32)), .val (.ref u2), .unset, .unset]) rfl k) ?_
        show own_FinW _ _ _ _ _ _ _ _ _ (T19.setTop (mkF m 9 #[.val (.int p0), .val (.int (2 : Int32)), .val (.ref u2), .unset, .unset] []))
        refine own_goW (fun _ k => XS.aloadN X19.here hx rfl (hb hby at_9) rfl rfl k) ?_
        show own_FinW _ _ _ _ _ _ _ _ _ (T19.setTop (mkF m 10 #[.val (.int p0), .val (.int (2 : Int32)), .val (.ref u2), .unset, .unset] [(.ref u2)]))
        obtain ⟨cq20, kq20, q20a, q20b, q20c⟩ := isOf hZ e19 ux2
        obtain ⟨_, _, ⟨T20, L20, k20, n20⟩, -, X20, hSi20, hgr20, ⟨Lc20, hQ20, l20, y20, z20, hCq20⟩, st20⟩ := X19.virtualBackS hx (y := (⟨"com/example/cordon/cordon/Ending", "result", "()Ljava/lang/String;"⟩ : MethodName)) (z := (⟨"com/example/cordon/cordon/Ending", "result", "()Ljava/lang/String;"⟩ : MethodName)) hown (mvT hZ (hw _ (List.mem_of_getElem? (i := 7) rfl))) (mvT hZ (hw _ (List.mem_of_getElem? (i := 8) rfl))) (notFace_of_selects (args := #[]) (mvT hZ (hw _ (List.mem_of_getElem? (i := 10) rfl)))) (mvT hZ (hw _ (List.mem_of_getElem? (i := 10) rfl))) (mvT hZ (hw _ (List.mem_of_getElem? (i := 9) rfl))) (by decide) (backOfSH (s := s) (vm0 := s.vm) (W := 0) (rm2l l Z a0 hw [] u2 h0 n0 Z0 uf2) hZ (hw _ (List.mem_of_getElem? (i := 11) rfl)) (hw _ (List.mem_of_getElem? (i := 5) rfl)) (by decide) (by decide) (own_EW hw) hC0.1) q20a q20c (g := (mkF m 10 #[.val (.int p0), .val (.int (2 : Int32)), .val (.ref u2), .unset, .unset] [(.ref u2)])) rfl (by rw [hml]; rfl) (Steps.refl _) (argsL := []) (rest := []) (lenOf own_pd90 rfl) rfl (by show 2 * 0 + _ ≤ _; exact Nat.le_of_eq rfl) (hb hby at_10) (fun _ _ => ⟨rfl, e19, (by decide : 0 + 2 ≤ _), (by decide : 0 + 20 ≤ _)⟩)
        dsimp only [Pt.U, Pt.locs, Pt.cells, Pt.slots] at hSi20 hgr20 hCq20
        dsimp only [Pt.U, Pt.locs, Pt.cells, Pt.slots] at X20 l20 y20 z20 st20 hQ20
        replace y20 : 2 = k20 := y20.symm
        replace z20 : 20 = n20 := z20.symm
        subst y20 z20
        have hS20 := own_Wb.next hS0 (show _ ≤ T19.heap.size from by rw [e19]; exact hk0) hSi20 hgr20
        have hZ : Z.Warmed39 (s.setVm T20.vm).vm := State.Warmed39.trans hZ hSi20.1
        have hown : (s.setVm T20.vm).vm.findClass "com/example/cordon/cordon/EndingResultPinLaw" = some m.cls := by rw [show (s.setVm T20.vm).vm = T20.vm from rfl, hSi20.1.alike.findClass]; exact hown
        have hC20 : CHr Z own_EL s00.vm s00.heap (s.setVm T20.vm).vm T20.heap := CHr.trans hC0 hCq20
        have hk20 : T20.heap.size ≤ T20.heap.size := Nat.le_refl _
        obtain ⟨s, es20⟩ : ∃ z : State, z = s.setVm T20.vm := ⟨_, rfl⟩
        rw [← es20] at X20 hS20 hZ hown hC20
        obtain ⟨ra20, rb20, rfl, N20q, Kq20, E_ra20_20, F_coder_ra20_20, F_value_ra20_20, A_rb20_20⟩ := hQ20
        have N20 : Fr n0 L20 := by rw [l20]; exact Fr.app N19 N20q
        have S_CURED_20 := own_stak us0 Kq20
        have E_u0_20 := ux0.keep Kq20
        have F_won_u0_20 := uf0.keep Kq20 nin0
        have S_OUTBREAKS_20 := own_stak us1 Kq20
        have E_u1_20 := ux1.keep Kq20
        have F_won_u1_20 := uf1.keep Kq20 nin0
        have S_CUBES_20 := own_stak us2 Kq20
        have E_u2_20 := ux2.keep Kq20
        have F_won_u2_20 := uf2.keep Kq20 nin0
        have S_CARDS_20 := own_stak us3 Kq20
        have E_u3_20 := ux3.keep Kq20
        have F_won_u3_20 := uf3.keep Kq20 nin0
        have S_COMPACT_STRINGS_20 := own_stak uc Kq20
        have Z20 : n0 ≤ T20.heap.size := Nat.le_trans Z0 Kq20.1
        refine own_goW (fun tg k => st20.trans k) ?_
        show own_FinW _ _ _ _ _ _ _ _ _ (T20.setTop (mkF m 13 #[.val (.int p0), .val (.int (2 : Int32)), .val (.ref u2), .unset, .unset] [(.ref ra20)]))
        refine own_goW (fun _ k => XS.astoreN X20.here hx rfl (hb hby at_13) rfl rfl (l' := #[.val (.int p0), .val (.int (2 : Int32)), .val (.ref u2), .val (.ref ra20), .unset]) rfl k) ?_
        show own_FinW _ _ _ _ _ _ _ _ _ (T20.setTop (mkF m 14 #[.val (.int p0), .val (.int (2 : Int32)), .val (.ref u2), .val (.ref ra20), .unset] []))
        refine own_goW (fun _ k => XS.iloadN X20.here hx rfl (hb hby at_14) rfl k) ?_
        show own_FinW _ _ _ _ _ _ _ _ _ (T20.setTop (mkF m 15 #[.val (.int p0), .val (.int (2 : Int32)), .val (.ref u2), .val (.ref ra20), .unset] [(.int (2 : Int32))]))
        refine own_goW (fun _ k => XS.ifYes X20.here hx rfl (pc0 := 15) (pc' := 23) rfl (hb hby at_15) rfl ((if0 _ _).trans (feq (by decide)).2) (by decide) (by decide) k) ?_
        show own_FinW _ _ _ _ _ _ _ _ _ (T20.setTop (mkF m 23 #[.val (.int p0), .val (.int (2 : Int32)), .val (.ref u2), .val (.ref ra20), .unset] []))
        obtain ⟨a21, T21, h21, k21, s, b21, X21, e21, E21, hS21, hk21, hZ, hown, hC21, E_a21_21, F_coder_a21_21, F_value_a21_21, A_b21_21, st21⟩ := own_ldcC X20 hx hZ hown (hw _ (List.mem_of_getElem? (i := 36) rfl)) (own_wS hw) rfl hS20 hk20 (own_EW hw) (List.mem_of_getElem? (i := 3) rfl) hC20 ⟨by decide, rfl⟩ (z := (4 : Int32)) (by decide) rfl (f := fun i => .int (own_lost i)) own_lost_ok (g := (mkF m 23 #[.val (.int p0), .val (.int (2 : Int32)), .val (.ref u2), .val (.ref ra20), .unset] [])) rfl (hb hby at_23) (n := 16) (by decide) (by decide) (by decide) (by decide)
        have S_CURED_21 := S_CURED_20.ext E21
        have E_u0_21 := E_u0_20.ext E21
        have F_won_u0_21 := F_won_u0_20.ext E21
        have S_OUTBREAKS_21 := S_OUTBREAKS_20.ext E21
        have E_u1_21 := E_u1_20.ext E21
        have F_won_u1_21 := F_won_u1_20.ext E21
        have S_CUBES_21 := S_CUBES_20.ext E21
        have E_u2_21 := E_u2_20.ext E21
        have F_won_u2_21 := F_won_u2_20.ext E21
        have S_CARDS_21 := S_CARDS_20.ext E21
        have E_u3_21 := E_u3_20.ext E21
        have F_won_u3_21 := F_won_u3_20.ext E21
        have S_COMPACT_STRINGS_21 := S_COMPACT_STRINGS_20.ext E21
        have E_ra20_21 := E_ra20_20.ext E21
        have F_coder_ra20_21 := F_coder_ra20_20.ext E21
        have F_value_ra20_21 := F_value_ra20_20.ext E21
        have A_rb20_21 := A_rb20_20.ext E21
        have Z21 : n0 ≤ h21.size := Nat.le_trans Z20 E21.1
        refine own_goW (fun tg k => st21 tg k) ?_
        show own_FinW _ _ _ _ _ _ _ _ _ (T21.setTop (mkF m 25 #[.val (.int p0), .val (.int (2 : Int32)), .val (.ref u2), .val (.ref ra20), .unset] [(.ref a21)]))
        refine own_goW (fun _ k => XS.astore X21.here hx rfl (hb hby at_25) rfl rfl (l' := #[.val (.int p0), .val (.int (2 : Int32)), .val (.ref u2), .val (.ref ra20), .val (.ref a21)]) rfl k) ?_
        show own_FinW _ _ _ _ _ _ _ _ _ (T21.setTop (mkF m 27 #[.val (.int p0), .val (.int (2 : Int32)), .val (.ref u2), .val (.ref ra20), .val (.ref a21)] []))
        refine own_goW (fun _ k => XS.aloadN X21.here hx rfl (hb hby at_27) rfl rfl k) ?_
        show own_FinW _ _ _ _ _ _ _ _ _ (T21.setTop (mkF m 28 #[.val (.int p0), .val (.int (2 : Int32)), .val (.ref u2), .val (.ref ra20), .val (.ref a21)] [(.ref ra20)]))
        refine own_goW (fun _ k => XS.ifnonnullYes X21.here hx rfl (pc0 := 28) (pc' := 33) rfl (hb hby at_28) rfl (by decide) (by decide) k) ?_
        show own_FinW _ _ _ _ _ _ _ _ _ (T21.setTop (mkF m 33 #[.val (.int p0), .val (.int (2 : Int32)), .val (.ref u2), .val (.ref ra20), .val (.ref a21)] []))
        refine own_goW (fun _ k => XS.aloadN X21.here hx rfl (hb hby at_33) rfl rfl k) ?_
        show own_FinW _ _ _ _ _ _ _ _ _ (T21.setTop (mkF m 34 #[.val (.int p0), .val (.int (2 : Int32)), .val (.ref u2), .val (.ref ra20), .val (.ref a21)] [(.ref ra20)]))
        refine own_goW (fun _ k => XS.aload X21.here hx rfl (hb hby at_34) rfl rfl k) ?_
        show own_FinW _ _ _ _ _ _ _ _ _ (T21.setTop (mkF m 36 #[.val (.int p0), .val (.int (2 : Int32)), .val (.ref u2), .val (.ref ra20), .val (.ref a21)] [(.ref a21), (.ref ra20)]))
        obtain ⟨cq22, kq22, q22a, q22b, q22c⟩ := isOf hZ e21 E_ra20_21
        obtain ⟨_, _, ⟨T22, L22, k22, n22⟩, -, X22, ⟨Lc22, hQ22, l22, y22, z22⟩, st22⟩ := X21.virtualBack hx (y := (⟨"java/lang/String", "equals", "(Ljava/lang/Object;)Z"⟩ : MethodName)) (z := (⟨"java/lang/String", "equals", "(Ljava/lang/Object;)Z"⟩ : MethodName)) hown (mvT hZ (hw _ (List.mem_of_getElem? (i := 23) rfl))) (mvT hZ (hw _ (List.mem_of_getElem? (i := 24) rfl))) (notFace_of_selects (args := #[]) (mvT hZ (hw _ (List.mem_of_getElem? (i := 26) rfl)))) (mvT hZ (hw _ (List.mem_of_getElem? (i := 26) rfl))) (mvT hZ (hw _ (List.mem_of_getElem? (i := 25) rfl))) (by decide) (backOf (W := 0) (rm3e4 l Z a0 hw [] ra20 a21 rb20 b21 ucs own_lost h21 n0 Z21 E_ra20_21 F_coder_ra20_21 F_value_ra20_21 A_rb20_21 E_a21_21 F_coder_a21_21 F_value_a21_21 A_b21_21 S_COMPACT_STRINGS_21 uncs) hZ (hw _ (List.mem_of_getElem? (i := 27) rfl)) (hw _ (List.mem_of_getElem? (i := 15) rfl)) (by decide) (by decide)) q22a q22c (g := (mkF m 36 #[.val (.int p0), .val (.int (2 : Int32)), .val (.ref u2), .val (.ref ra20), .val (.ref a21)] [(.ref a21), (.ref ra20)])) rfl (by rw [hml]; rfl) (Steps.refl _) (argsL := [(.ref a21)]) (rest := []) (lenOf own_pd91 rfl) rfl (by show 2 * 0 + _ ≤ _; exact Nat.le_of_eq rfl) (hb hby at_36) (fun _ _ => ⟨rfl, e21, (by decide : 4 + 0 ≤ _), (by decide : 40 + 0 ≤ _)⟩)
        dsimp only [Pt.U, Pt.locs, Pt.cells, Pt.slots] at X22 l22 y22 z22 st22 hQ22
        replace y22 : 4 = k22 := y22.symm
        replace z22 : 40 = n22 := z22.symm
        subst y22 z22
        obtain ⟨rfl, N22q, e22⟩ := hQ22
        have N22 : Fr n0 L22 := by rw [l22]; exact Fr.app N20 N22q
        refine own_goW (fun tg k => st22.trans k) ?_
        show own_FinW _ _ _ _ _ _ _ _ _ (T22.setTop (mkF m 39 #[.val (.int p0), .val (.int (2 : Int32)), .val (.ref u2), .val (.ref ra20), .val (.ref a21)] [(.int (1 : Int32))]))
        refine own_goW (fun _ k => XS.ifNo X22.here hx rfl (hb hby at_39) rfl ((if0 _ _).trans (feq (by decide)).1) k) ?_
        show own_FinW _ _ _ _ _ _ _ _ _ (T22.setTop (mkF m 42 #[.val (.int p0), .val (.int (2 : Int32)), .val (.ref u2), .val (.ref ra20), .val (.ref a21)] []))
        refine own_goW (fun _ k => XS.aloadN X22.here hx rfl (hb hby at_42) rfl rfl k) ?_
        show own_FinW _ _ _ _ _ _ _ _ _ (T22.setTop (mkF m 43 #[.val (.int p0), .val (.int (2 : Int32)), .val (.ref u2), .val (.ref ra20), .val (.ref a21)] [(.ref u2)]))
        obtain ⟨cq23, kq23, q23a, q23b, q23c⟩ := isOf hZ e22 E_u2_21
        obtain ⟨_, _, ⟨T23, L23, k23, n23⟩, -, X23, ⟨Lc23, hQ23, l23, y23, z23⟩, st23⟩ := X22.virtualBack hx (y := (⟨"com/example/cordon/cordon/Ending", "won", "()Z"⟩ : MethodName)) (z := (⟨"com/example/cordon/cordon/Ending", "won", "()Z"⟩ : MethodName)) hown (mvT hZ (hw _ (List.mem_of_getElem? (i := 28) rfl))) (mvT hZ (hw _ (List.mem_of_getElem? (i := 29) rfl))) (notFace_of_selects (args := #[]) (mvT hZ (hw _ (List.mem_of_getElem? (i := 31) rfl)))) (mvT hZ (hw _ (List.mem_of_getElem? (i := 31) rfl))) (mvT hZ (hw _ (List.mem_of_getElem? (i := 30) rfl))) (by decide) (backOf (W := 0) (rm4 l Z a0 hw [] u2 (0 : Int32) h21 n0 Z21 F_won_u2_21 (Or.inl rfl)) hZ (hw _ (List.mem_of_getElem? (i := 32) rfl)) (hw _ (List.mem_of_getElem? (i := 5) rfl)) (by decide) (by decide)) q23a q23c (g := (mkF m 43 #[.val (.int p0), .val (.int (2 : Int32)), .val (.ref u2), .val (.ref ra20), .val (.ref a21)] [(.ref u2)])) rfl (by rw [hml]; rfl) (Steps.refl _) (argsL := []) (rest := []) (lenOf own_pd92 rfl) rfl (by show 2 * 0 + _ ≤ _; exact Nat.le_of_eq rfl) (hb hby at_43) (fun _ _ => ⟨rfl, e22, (by decide : 4 + 0 ≤ _), (by decide : 40 + 0 ≤ _)⟩)
        dsimp only [Pt.U, Pt.locs, Pt.cells, Pt.slots] at X23 l23 y23 z23 st23 hQ23
        replace y23 : 4 = k23 := y23.symm
        replace z23 : 40 = n23 := z23.symm
        subst y23 z23
        obtain ⟨rfl, N23q, e23⟩ := hQ23
        have N23 : Fr n0 L23 := by rw [l23]; exact Fr.app N22 N23q
        refine own_goW (fun tg k => st23.trans k) ?_
        show own_FinW _ _ _ _ _ _ _ _ _ (T23.setTop (mkF m 46 #[.val (.int p0), .val (.int (2 : Int32)), .val (.ref u2), .val (.ref ra20), .val (.ref a21)] [(.int (0 : Int32))]))
        refine own_goW (fun _ k => XS.aloadN X23.here hx rfl (hb hby at_46) rfl rfl k) ?_
        show own_FinW _ _ _ _ _ _ _ _ _ (T23.setTop (mkF m 47 #[.val (.int p0), .val (.int (2 : Int32)), .val (.ref u2), .val (.ref ra20), .val (.ref a21)] [(.ref ra20), (.int (0 : Int32))]))
        obtain ⟨a24, T24, h24, k24, s, b24, X24, e24, E24, hS24, hk24, hZ, hown, hC24, E_a24_24, F_coder_a24_24, F_value_a24_24, A_b24_24, st24⟩ := own_ldcC X23 hx hZ hown (hw _ (List.mem_of_getElem? (i := 22) rfl)) (own_wS hw) e23 hS21 hk21 (own_EW hw) (List.mem_of_getElem? (i := 2) rfl) hC21 ⟨by decide, rfl⟩ (z := (3 : Int32)) (by decide) rfl (f := fun i => .int (own_won i)) own_won_ok (g := (mkF m 47 #[.val (.int p0), .val (.int (2 : Int32)), .val (.ref u2), .val (.ref ra20), .val (.ref a21)] [(.ref ra20), (.int (0 : Int32))])) rfl (hb hby at_47) (n := 12) (by decide) (by decide) (by decide) (by decide)
        have S_CURED_24 := S_CURED_21.ext E24
        have E_u0_24 := E_u0_21.ext E24
        have F_won_u0_24 := F_won_u0_21.ext E24
        have S_OUTBREAKS_24 := S_OUTBREAKS_21.ext E24
        have E_u1_24 := E_u1_21.ext E24
        have F_won_u1_24 := F_won_u1_21.ext E24
        have S_CUBES_24 := S_CUBES_21.ext E24
        have E_u2_24 := E_u2_21.ext E24
        have F_won_u2_24 := F_won_u2_21.ext E24
        have S_CARDS_24 := S_CARDS_21.ext E24
        have E_u3_24 := E_u3_21.ext E24
        have F_won_u3_24 := F_won_u3_21.ext E24
        have S_COMPACT_STRINGS_24 := S_COMPACT_STRINGS_21.ext E24
        have E_ra20_24 := E_ra20_21.ext E24
        have F_coder_ra20_24 := F_coder_ra20_21.ext E24
        have F_value_ra20_24 := F_value_ra20_21.ext E24
        have A_rb20_24 := A_rb20_21.ext E24
        have E_a21_24 := E_a21_21.ext E24
        have F_coder_a21_24 := F_coder_a21_21.ext E24
        have F_value_a21_24 := F_value_a21_21.ext E24
        have A_b21_24 := A_b21_21.ext E24
        have Z24 : n0 ≤ h24.size := Nat.le_trans Z21 E24.1
        refine own_goW (fun tg k => st24 tg k) ?_
        show own_FinW _ _ _ _ _ _ _ _ _ (T24.setTop (mkF m 49 #[.val (.int p0), .val (.int (2 : Int32)), .val (.ref u2), .val (.ref ra20), .val (.ref a21)] [(.ref a24), (.ref ra20), (.int (0 : Int32))]))
        have hne25 : ra20 ≠ a24 := own_strne F_value_ra20_24 F_value_a24_24 A_rb20_24 A_b24_24 (by decide)
        obtain ⟨cq26, kq26, q26a, q26b, q26c⟩ := isOf hZ e24 E_ra20_24
        obtain ⟨_, _, ⟨T26, L26, k26, n26⟩, -, X26, ⟨Lc26, hQ26, l26, y26, z26⟩, st26⟩ := X24.virtualBack hx (y := (⟨"java/lang/String", "equals", "(Ljava/lang/Object;)Z"⟩ : MethodName)) (z := (⟨"java/lang/String", "equals", "(Ljava/lang/Object;)Z"⟩ : MethodName)) hown (mvT hZ (hw _ (List.mem_of_getElem? (i := 23) rfl))) (mvT hZ (hw _ (List.mem_of_getElem? (i := 24) rfl))) (notFace_of_selects (args := #[]) (mvT hZ (hw _ (List.mem_of_getElem? (i := 26) rfl)))) (mvT hZ (hw _ (List.mem_of_getElem? (i := 26) rfl))) (mvT hZ (hw _ (List.mem_of_getElem? (i := 25) rfl))) (by decide) (backOf (W := 1) (rm3n l Z a0 hw [] ra20 a24 rb20 b24 ucs own_lost own_won h24 n0 Z24 E_ra20_24 F_coder_ra20_24 F_value_ra20_24 A_rb20_24 E_a24_24 F_coder_a24_24 F_value_a24_24 A_b24_24 S_COMPACT_STRINGS_24 uncs hne25) hZ (hw _ (List.mem_of_getElem? (i := 27) rfl)) (hw _ (List.mem_of_getElem? (i := 15) rfl)) (by decide) (by decide)) q26a q26c (g := (mkF m 49 #[.val (.int p0), .val (.int (2 : Int32)), .val (.ref u2), .val (.ref ra20), .val (.ref a21)] [(.ref a24), (.ref ra20), (.int (0 : Int32))])) rfl (by rw [hml]; rfl) (Steps.refl _) (argsL := [(.ref a24)]) (rest := [(.int (0 : Int32))]) (lenOf own_pd91 rfl) rfl (by show 2 * 0 + _ ≤ _; exact Nat.le_of_eq rfl) (hb hby at_49) (fun _ _ => ⟨rfl, e24, (by decide : 6 + 0 ≤ _), (by decide : 56 + 0 ≤ _)⟩)
        dsimp only [Pt.U, Pt.locs, Pt.cells, Pt.slots] at X26 l26 y26 z26 st26 hQ26
        replace y26 : 6 = k26 := y26.symm
        replace z26 : 56 = n26 := z26.symm
        subst y26 z26
        obtain ⟨rfl, N26q, e26⟩ := hQ26
        have N26 : Fr n0 L26 := by rw [l26]; exact Fr.app N23 N26q
        refine own_goW (fun tg k => st26.trans k) ?_
        show own_FinW _ _ _ _ _ _ _ _ _ (T26.setTop (mkF m 52 #[.val (.int p0), .val (.int (2 : Int32)), .val (.ref u2), .val (.ref ra20), .val (.ref a21)] [(.int (0 : Int32)), (.int (0 : Int32))]))
        refine own_goW (fun _ k => XS.icmpNo X26.here hx rfl (hb hby at_52) rfl (teq (by decide)).2 k) ?_
        show own_FinW _ _ _ _ _ _ _ _ _ (T26.setTop (mkF m 55 #[.val (.int p0), .val (.int (2 : Int32)), .val (.ref u2), .val (.ref ra20), .val (.ref a21)] []))
        refine own_goW (fun _ k => XS.iconst X26.here hx rfl (hb hby at_55) k) ?_
        show own_FinW _ _ _ _ _ _ _ _ _ (T26.setTop (mkF m 56 #[.val (.int p0), .val (.int (2 : Int32)), .val (.ref u2), .val (.ref ra20), .val (.ref a21)] [(.int (1 : Int32))]))
        refine own_goW (fun _ k => XS.goto X26.here hx rfl (pc0 := 56) (pc' := 60) rfl (hb hby at_56) (by decide) (by decide) k) ?_
        show own_FinW _ _ _ _ _ _ _ _ _ (T26.setTop (mkF m 60 #[.val (.int p0), .val (.int (2 : Int32)), .val (.ref u2), .val (.ref ra20), .val (.ref a21)] [(.int (1 : Int32))]))
        refine own_retW X26 hx hlk hS24 (by rw [e26]; exact hk24) Bd.returns rfl (Or.inl ⟨rfl, by simp, _, rfl⟩) (hb hby at_60) (Nat.le_of_ble_eq_true rfl) (Nat.le_of_ble_eq_true rfl) (own_chT X26 hZ hS24 (own_EW hw) e26 hC24) ?_
        exact ⟨(own_lf_own_f0_3 (p0 := p0) hs1 hs9 hs18), N26, trivial⟩
      · have hs27 : (p0 &&& (3 : Int32)) = (3 : Int32) := own_and3 _ hs1 hs9 hs18
        try rw [hs27]
        show own_FinW _ _ _ _ _ _ _ _ _ (s₁.setTop (mkF m 4 #[.val (.int p0), .val (.int (3 : Int32)), .unset, .unset, .unset] []))
        refine own_goW (fun _ k => XS.iloadN X0.here hx rfl (hb hby at_4) rfl k) ?_
        show own_FinW _ _ _ _ _ _ _ _ _ (s₁.setTop (mkF m 5 #[.val (.int p0), .val (.int (3 : Int32)), .unset, .unset, .unset] [(.int (3 : Int32))]))
        obtain ⟨_, _, ⟨T28, L28, k28, n28⟩, -, X28, ⟨Lc28, hQ28, l28, y28, z28⟩, st28⟩ := Jvm.LawKit.callS X0 hx (y := (⟨"com/example/cordon/cordon/EndingResultPinLaw", "pick", "(I)Lcom/example/cordon/cordon/Ending;"⟩ : MethodName)) hown (mvT hZ (hw _ (List.mem_of_getElem? (i := 0) rfl))) (mvT hZ (hw _ (List.mem_of_getElem? (i := 1) rfl))) (mvT hZ (hw _ (List.mem_of_getElem? (i := 2) rfl))) (mvT hZ (hw _ (List.mem_of_getElem? (i := 3) rfl))) (by decide) (backOf (W := 0) (rm1k3 l Z a0 hw [] (3 : Int32) u3 h0 n0 Z0 us3 rfl) hZ (hw _ (List.mem_of_getElem? (i := 3) rfl)) (hw _ (List.mem_of_getElem? (i := 2) rfl)) (by decide) (by decide)) (g := (mkF m 5 #[.val (.int p0), .val (.int (3 : Int32)), .unset, .unset, .unset] [(.int (3 : Int32))])) rfl (by rw [hml]; rfl) (argsL := [(.int (3 : Int32))]) (rest := []) (lenOf own_pd89 rfl) rfl (by show 2 * 0 + _ ≤ _; exact Nat.le_of_eq rfl) (hb hby at_5) (fun _ _ => ⟨rfl, e0, (by decide : 0 + 0 ≤ _), (by decide : 0 + 0 ≤ _)⟩)
        dsimp only [Pt.U, Pt.locs, Pt.cells, Pt.slots] at X28 l28 y28 z28 st28 hQ28
        replace y28 : 0 = k28 := y28.symm
        replace z28 : 0 = n28 := z28.symm
        subst y28 z28
        obtain ⟨rfl, N28q, e28⟩ := hQ28
        have N28 : Fr n0 L28 := by rw [l28]; exact Fr.app N0 N28q
        refine own_goW (fun tg k => st28 tg k) ?_
        show own_FinW _ _ _ _ _ _ _ _ _ (T28.setTop (mkF m 8 #[.val (.int p0), .val (.int (3 : Int32)), .unset, .unset, .unset] [(.ref u3)]))
        refine own_goW (fun _ k => XS.astoreN X28.here hx rfl (hb hby at_8) rfl rfl (l' := #[.val (.int p0), .val (.int (3 : Int32)), .val (.ref u3), .unset, .unset]) rfl k) ?_
        show own_FinW _ _ _ _ _ _ _ _ _ (T28.setTop (mkF m 9 #[.val (.int p0), .val (.int (3 : Int32)), .val (.ref u3), .unset, .unset] []))
        refine own_goW (fun _ k => XS.aloadN X28.here hx rfl (hb hby at_9) rfl rfl k) ?_
        show own_FinW _ _ _ _ _ _ _ _ _ (T28.setTop (mkF m 10 #[.val (.int p0), .val (.int (3 : Int32)), .val (.ref u3), .unset, .unset] [(.ref u3)]))
        obtain ⟨cq29, kq29, q29a, q29b, q29c⟩ := isOf hZ e28 ux3
        obtain ⟨_, _, ⟨T29, L29, k29, n29⟩, -, X29, hSi29, hgr29, ⟨Lc29, hQ29, l29, y29, z29, hCq29⟩, st29⟩ := X28.virtualBackS hx (y := (⟨"com/example/cordon/cordon/Ending", "result", "()Ljava/lang/String;"⟩ : MethodName)) (z := (⟨"com/example/cordon/cordon/Ending", "result", "()Ljava/lang/String;"⟩ : MethodName)) hown (mvT hZ (hw _ (List.mem_of_getElem? (i := 7) rfl))) (mvT hZ (hw _ (List.mem_of_getElem? (i := 8) rfl))) (notFace_of_selects (args := #[]) (mvT hZ (hw _ (List.mem_of_getElem? (i := 10) rfl)))) (mvT hZ (hw _ (List.mem_of_getElem? (i := 10) rfl))) (mvT hZ (hw _ (List.mem_of_getElem? (i := 9) rfl))) (by decide) (backOfSH (s := s) (vm0 := s.vm) (W := 0) (rm2l l Z a0 hw [] u3 h0 n0 Z0 uf3) hZ (hw _ (List.mem_of_getElem? (i := 11) rfl)) (hw _ (List.mem_of_getElem? (i := 5) rfl)) (by decide) (by decide) (own_EW hw) hC0.1) q29a q29c (g := (mkF m 10 #[.val (.int p0), .val (.int (3 : Int32)), .val (.ref u3), .unset, .unset] [(.ref u3)])) rfl (by rw [hml]; rfl) (Steps.refl _) (argsL := []) (rest := []) (lenOf own_pd90 rfl) rfl (by show 2 * 0 + _ ≤ _; exact Nat.le_of_eq rfl) (hb hby at_10) (fun _ _ => ⟨rfl, e28, (by decide : 0 + 2 ≤ _), (by decide : 0 + 20 ≤ _)⟩)
        dsimp only [Pt.U, Pt.locs, Pt.cells, Pt.slots] at hSi29 hgr29 hCq29
        dsimp only [Pt.U, Pt.locs, Pt.cells, Pt.slots] at X29 l29 y29 z29 st29 hQ29
        replace y29 : 2 = k29 := y29.symm
        replace z29 : 20 = n29 := z29.symm
        subst y29 z29
        have hS29 := own_Wb.next hS0 (show _ ≤ T28.heap.size from by rw [e28]; exact hk0) hSi29 hgr29
        have hZ : Z.Warmed39 (s.setVm T29.vm).vm := State.Warmed39.trans hZ hSi29.1
        have hown : (s.setVm T29.vm).vm.findClass "com/example/cordon/cordon/EndingResultPinLaw" = some m.cls := by rw [show (s.setVm T29.vm).vm = T29.vm from rfl, hSi29.1.alike.findClass]; exact hown
        have hC29 : CHr Z own_EL s00.vm s00.heap (s.setVm T29.vm).vm T29.heap := CHr.trans hC0 hCq29
        have hk29 : T29.heap.size ≤ T29.heap.size := Nat.le_refl _
        obtain ⟨s, es29⟩ : ∃ z : State, z = s.setVm T29.vm := ⟨_, rfl⟩
        rw [← es29] at X29 hS29 hZ hown hC29
        obtain ⟨ra29, rb29, rfl, N29q, Kq29, E_ra29_29, F_coder_ra29_29, F_value_ra29_29, A_rb29_29⟩ := hQ29
        have N29 : Fr n0 L29 := by rw [l29]; exact Fr.app N28 N29q
        have S_CURED_29 := own_stak us0 Kq29
        have E_u0_29 := ux0.keep Kq29
        have F_won_u0_29 := uf0.keep Kq29 nin0
        have S_OUTBREAKS_29 := own_stak us1 Kq29
        have E_u1_29 := ux1.keep Kq29
        have F_won_u1_29 := uf1.keep Kq29 nin0
        have S_CUBES_29 := own_stak us2 Kq29
        have E_u2_29 := ux2.keep Kq29
        have F_won_u2_29 := uf2.keep Kq29 nin0
        have S_CARDS_29 := own_stak us3 Kq29
        have E_u3_29 := ux3.keep Kq29
        have F_won_u3_29 := uf3.keep Kq29 nin0
        have S_COMPACT_STRINGS_29 := own_stak uc Kq29
        have Z29 : n0 ≤ T29.heap.size := Nat.le_trans Z0 Kq29.1
        refine own_goW (fun tg k => st29.trans k) ?_
        show own_FinW _ _ _ _ _ _ _ _ _ (T29.setTop (mkF m 13 #[.val (.int p0), .val (.int (3 : Int32)), .val (.ref u3), .unset, .unset] [(.ref ra29)]))
        refine own_goW (fun _ k => XS.astoreN X29.here hx rfl (hb hby at_13) rfl rfl (l' := #[.val (.int p0), .val (.int (3 : Int32)), .val (.ref u3), .val (.ref ra29), .unset]) rfl k) ?_
        show own_FinW _ _ _ _ _ _ _ _ _ (T29.setTop (mkF m 14 #[.val (.int p0), .val (.int (3 : Int32)), .val (.ref u3), .val (.ref ra29), .unset] []))
        refine own_goW (fun _ k => XS.iloadN X29.here hx rfl (hb hby at_14) rfl k) ?_
        show own_FinW _ _ _ _ _ _ _ _ _ (T29.setTop (mkF m 15 #[.val (.int p0), .val (.int (3 : Int32)), .val (.ref u3), .val (.ref ra29), .unset] [(.int (3 : Int32))]))
        refine own_goW (fun _ k => XS.ifYes X29.here hx rfl (pc0 := 15) (pc' := 23) rfl (hb hby at_15) rfl ((if0 _ _).trans (feq (by decide)).2) (by decide) (by decide) k) ?_
        show own_FinW _ _ _ _ _ _ _ _ _ (T29.setTop (mkF m 23 #[.val (.int p0), .val (.int (3 : Int32)), .val (.ref u3), .val (.ref ra29), .unset] []))
        obtain ⟨a30, T30, h30, k30, s, b30, X30, e30, E30, hS30, hk30, hZ, hown, hC30, E_a30_30, F_coder_a30_30, F_value_a30_30, A_b30_30, st30⟩ := own_ldcC X29 hx hZ hown (hw _ (List.mem_of_getElem? (i := 36) rfl)) (own_wS hw) rfl hS29 hk29 (own_EW hw) (List.mem_of_getElem? (i := 3) rfl) hC29 ⟨by decide, rfl⟩ (z := (4 : Int32)) (by decide) rfl (f := fun i => .int (own_lost i)) own_lost_ok (g := (mkF m 23 #[.val (.int p0), .val (.int (3 : Int32)), .val (.ref u3), .val (.ref ra29), .unset] [])) rfl (hb hby at_23) (n := 16) (by decide) (by decide) (by decide) (by decide)
        have S_CURED_30 := S_CURED_29.ext E30
        have E_u0_30 := E_u0_29.ext E30
        have F_won_u0_30 := F_won_u0_29.ext E30
        have S_OUTBREAKS_30 := S_OUTBREAKS_29.ext E30
        have E_u1_30 := E_u1_29.ext E30
        have F_won_u1_30 := F_won_u1_29.ext E30
        have S_CUBES_30 := S_CUBES_29.ext E30
        have E_u2_30 := E_u2_29.ext E30
        have F_won_u2_30 := F_won_u2_29.ext E30
        have S_CARDS_30 := S_CARDS_29.ext E30
        have E_u3_30 := E_u3_29.ext E30
        have F_won_u3_30 := F_won_u3_29.ext E30
        have S_COMPACT_STRINGS_30 := S_COMPACT_STRINGS_29.ext E30
        have E_ra29_30 := E_ra29_29.ext E30
        have F_coder_ra29_30 := F_coder_ra29_29.ext E30
        have F_value_ra29_30 := F_value_ra29_29.ext E30
        have A_rb29_30 := A_rb29_29.ext E30
        have Z30 : n0 ≤ h30.size := Nat.le_trans Z29 E30.1
        refine own_goW (fun tg k => st30 tg k) ?_
        show own_FinW _ _ _ _ _ _ _ _ _ (T30.setTop (mkF m 25 #[.val (.int p0), .val (.int (3 : Int32)), .val (.ref u3), .val (.ref ra29), .unset] [(.ref a30)]))
        refine own_goW (fun _ k => XS.astore X30.here hx rfl (hb hby at_25) rfl rfl (l' := #[.val (.int p0), .val (.int (3 : Int32)), .val (.ref u3), .val (.ref ra29), .val (.ref a30)]) rfl k) ?_
        show own_FinW _ _ _ _ _ _ _ _ _ (T30.setTop (mkF m 27 #[.val (.int p0), .val (.int (3 : Int32)), .val (.ref u3), .val (.ref ra29), .val (.ref a30)] []))
        refine own_goW (fun _ k => XS.aloadN X30.here hx rfl (hb hby at_27) rfl rfl k) ?_
        show own_FinW _ _ _ _ _ _ _ _ _ (T30.setTop (mkF m 28 #[.val (.int p0), .val (.int (3 : Int32)), .val (.ref u3), .val (.ref ra29), .val (.ref a30)] [(.ref ra29)]))
        refine own_goW (fun _ k => XS.ifnonnullYes X30.here hx rfl (pc0 := 28) (pc' := 33) rfl (hb hby at_28) rfl (by decide) (by decide) k) ?_
        show own_FinW _ _ _ _ _ _ _ _ _ (T30.setTop (mkF m 33 #[.val (.int p0), .val (.int (3 : Int32)), .val (.ref u3), .val (.ref ra29), .val (.ref a30)] []))
        refine own_goW (fun _ k => XS.aloadN X30.here hx rfl (hb hby at_33) rfl rfl k) ?_
        show own_FinW _ _ _ _ _ _ _ _ _ (T30.setTop (mkF m 34 #[.val (.int p0), .val (.int (3 : Int32)), .val (.ref u3), .val (.ref ra29), .val (.ref a30)] [(.ref ra29)]))
        refine own_goW (fun _ k => XS.aload X30.here hx rfl (hb hby at_34) rfl rfl k) ?_
        show own_FinW _ _ _ _ _ _ _ _ _ (T30.setTop (mkF m 36 #[.val (.int p0), .val (.int (3 : Int32)), .val (.ref u3), .val (.ref ra29), .val (.ref a30)] [(.ref a30), (.ref ra29)]))
        obtain ⟨cq31, kq31, q31a, q31b, q31c⟩ := isOf hZ e30 E_ra29_30
        obtain ⟨_, _, ⟨T31, L31, k31, n31⟩, -, X31, ⟨Lc31, hQ31, l31, y31, z31⟩, st31⟩ := X30.virtualBack hx (y := (⟨"java/lang/String", "equals", "(Ljava/lang/Object;)Z"⟩ : MethodName)) (z := (⟨"java/lang/String", "equals", "(Ljava/lang/Object;)Z"⟩ : MethodName)) hown (mvT hZ (hw _ (List.mem_of_getElem? (i := 23) rfl))) (mvT hZ (hw _ (List.mem_of_getElem? (i := 24) rfl))) (notFace_of_selects (args := #[]) (mvT hZ (hw _ (List.mem_of_getElem? (i := 26) rfl)))) (mvT hZ (hw _ (List.mem_of_getElem? (i := 26) rfl))) (mvT hZ (hw _ (List.mem_of_getElem? (i := 25) rfl))) (by decide) (backOf (W := 0) (rm3e4 l Z a0 hw [] ra29 a30 rb29 b30 ucs own_lost h30 n0 Z30 E_ra29_30 F_coder_ra29_30 F_value_ra29_30 A_rb29_30 E_a30_30 F_coder_a30_30 F_value_a30_30 A_b30_30 S_COMPACT_STRINGS_30 uncs) hZ (hw _ (List.mem_of_getElem? (i := 27) rfl)) (hw _ (List.mem_of_getElem? (i := 15) rfl)) (by decide) (by decide)) q31a q31c (g := (mkF m 36 #[.val (.int p0), .val (.int (3 : Int32)), .val (.ref u3), .val (.ref ra29), .val (.ref a30)] [(.ref a30), (.ref ra29)])) rfl (by rw [hml]; rfl) (Steps.refl _) (argsL := [(.ref a30)]) (rest := []) (lenOf own_pd91 rfl) rfl (by show 2 * 0 + _ ≤ _; exact Nat.le_of_eq rfl) (hb hby at_36) (fun _ _ => ⟨rfl, e30, (by decide : 4 + 0 ≤ _), (by decide : 40 + 0 ≤ _)⟩)
        dsimp only [Pt.U, Pt.locs, Pt.cells, Pt.slots] at X31 l31 y31 z31 st31 hQ31
        replace y31 : 4 = k31 := y31.symm
        replace z31 : 40 = n31 := z31.symm
        subst y31 z31
        obtain ⟨rfl, N31q, e31⟩ := hQ31
        have N31 : Fr n0 L31 := by rw [l31]; exact Fr.app N29 N31q
        refine own_goW (fun tg k => st31.trans k) ?_
        show own_FinW _ _ _ _ _ _ _ _ _ (T31.setTop (mkF m 39 #[.val (.int p0), .val (.int (3 : Int32)), .val (.ref u3), .val (.ref ra29), .val (.ref a30)] [(.int (1 : Int32))]))
        refine own_goW (fun _ k => XS.ifNo X31.here hx rfl (hb hby at_39) rfl ((if0 _ _).trans (feq (by decide)).1) k) ?_
        show own_FinW _ _ _ _ _ _ _ _ _ (T31.setTop (mkF m 42 #[.val (.int p0), .val (.int (3 : Int32)), .val (.ref u3), .val (.ref ra29), .val (.ref a30)] []))
        refine own_goW (fun _ k => XS.aloadN X31.here hx rfl (hb hby at_42) rfl rfl k) ?_
        show own_FinW _ _ _ _ _ _ _ _ _ (T31.setTop (mkF m 43 #[.val (.int p0), .val (.int (3 : Int32)), .val (.ref u3), .val (.ref ra29), .val (.ref a30)] [(.ref u3)]))
        obtain ⟨cq32, kq32, q32a, q32b, q32c⟩ := isOf hZ e31 E_u3_30
        obtain ⟨_, _, ⟨T32, L32, k32, n32⟩, -, X32, ⟨Lc32, hQ32, l32, y32, z32⟩, st32⟩ := X31.virtualBack hx (y := (⟨"com/example/cordon/cordon/Ending", "won", "()Z"⟩ : MethodName)) (z := (⟨"com/example/cordon/cordon/Ending", "won", "()Z"⟩ : MethodName)) hown (mvT hZ (hw _ (List.mem_of_getElem? (i := 28) rfl))) (mvT hZ (hw _ (List.mem_of_getElem? (i := 29) rfl))) (notFace_of_selects (args := #[]) (mvT hZ (hw _ (List.mem_of_getElem? (i := 31) rfl)))) (mvT hZ (hw _ (List.mem_of_getElem? (i := 31) rfl))) (mvT hZ (hw _ (List.mem_of_getElem? (i := 30) rfl))) (by decide) (backOf (W := 0) (rm4 l Z a0 hw [] u3 (0 : Int32) h30 n0 Z30 F_won_u3_30 (Or.inl rfl)) hZ (hw _ (List.mem_of_getElem? (i := 32) rfl)) (hw _ (List.mem_of_getElem? (i := 5) rfl)) (by decide) (by decide)) q32a q32c (g := (mkF m 43 #[.val (.int p0), .val (.int (3 : Int32)), .val (.ref u3), .val (.ref ra29), .val (.ref a30)] [(.ref u3)])) rfl (by rw [hml]; rfl) (Steps.refl _) (argsL := []) (rest := []) (lenOf own_pd92 rfl) rfl (by show 2 * 0 + _ ≤ _; exact Nat.le_of_eq rfl) (hb hby at_43) (fun _ _ => ⟨rfl, e31, (by decide : 4 + 0 ≤ _), (by decide : 40 + 0 ≤ _)⟩)
        dsimp only [Pt.U, Pt.locs, Pt.cells, Pt.slots] at X32 l32 y32 z32 st32 hQ32
        replace y32 : 4 = k32 := y32.symm
        replace z32 : 40 = n32 := z32.symm
        subst y32 z32
        obtain ⟨rfl, N32q, e32⟩ := hQ32
        have N32 : Fr n0 L32 := by rw [l32]; exact Fr.app N31 N32q
        refine own_goW (fun tg k => st32.trans k) ?_
        show own_FinW _ _ _ _ _ _ _ _ _ (T32.setTop (mkF m 46 #[.val (.int p0), .val (.int (3 : Int32)), .val (.ref u3), .val (.ref ra29), .val (.ref a30)] [(.int (0 : Int32))]))
        refine own_goW (fun _ k => XS.aloadN X32.here hx rfl (hb hby at_46) rfl rfl k) ?_
        show own_FinW _ _ _ _ _ _ _ _ _ (T32.setTop (mkF m 47 #[.val (.int p0), .val (.int (3 : Int32)), .val (.ref u3), .val (.ref ra29), .val (.ref a30)] [(.ref ra29), (.int (0 : Int32))]))
        obtain ⟨a33, T33, h33, k33, s, b33, X33, e33, E33, hS33, hk33, hZ, hown, hC33, E_a33_33, F_coder_a33_33, F_value_a33_33, A_b33_33, st33⟩ := own_ldcC X32 hx hZ hown (hw _ (List.mem_of_getElem? (i := 22) rfl)) (own_wS hw) e32 hS30 hk30 (own_EW hw) (List.mem_of_getElem? (i := 2) rfl) hC30 ⟨by decide, rfl⟩ (z := (3 : Int32)) (by decide) rfl (f := fun i => .int (own_won i)) own_won_ok (g := (mkF m 47 #[.val (.int p0), .val (.int (3 : Int32)), .val (.ref u3), .val (.ref ra29), .val (.ref a30)] [(.ref ra29), (.int (0 : Int32))])) rfl (hb hby at_47) (n := 12) (by decide) (by decide) (by decide) (by decide)
        have S_CURED_33 := S_CURED_30.ext E33
        have E_u0_33 := E_u0_30.ext E33
        have F_won_u0_33 := F_won_u0_30.ext E33
        have S_OUTBREAKS_33 := S_OUTBREAKS_30.ext E33
        have E_u1_33 := E_u1_30.ext E33
        have F_won_u1_33 := F_won_u1_30.ext E33
        have S_CUBES_33 := S_CUBES_30.ext E33
        have E_u2_33 := E_u2_30.ext E33
        have F_won_u2_33 := F_won_u2_30.ext E33
        have S_CARDS_33 := S_CARDS_30.ext E33
        have E_u3_33 := E_u3_30.ext E33
        have F_won_u3_33 := F_won_u3_30.ext E33
        have S_COMPACT_STRINGS_33 := S_COMPACT_STRINGS_30.ext E33
        have E_ra29_33 := E_ra29_30.ext E33
        have F_coder_ra29_33 := F_coder_ra29_30.ext E33
        have F_value_ra29_33 := F_value_ra29_30.ext E33
        have A_rb29_33 := A_rb29_30.ext E33
        have E_a30_33 := E_a30_30.ext E33
        have F_coder_a30_33 := F_coder_a30_30.ext E33
        have F_value_a30_33 := F_value_a30_30.ext E33
        have A_b30_33 := A_b30_30.ext E33
        have Z33 : n0 ≤ h33.size := Nat.le_trans Z30 E33.1
        refine own_goW (fun tg k => st33 tg k) ?_
        show own_FinW _ _ _ _ _ _ _ _ _ (T33.setTop (mkF m 49 #[.val (.int p0), .val (.int (3 : Int32)), .val (.ref u3), .val (.ref ra29), .val (.ref a30)] [(.ref a33), (.ref ra29), (.int (0 : Int32))]))
        have hne34 : ra29 ≠ a33 := own_strne F_value_ra29_33 F_value_a33_33 A_rb29_33 A_b33_33 (by decide)
        obtain ⟨cq35, kq35, q35a, q35b, q35c⟩ := isOf hZ e33 E_ra29_33
        obtain ⟨_, _, ⟨T35, L35, k35, n35⟩, -, X35, ⟨Lc35, hQ35, l35, y35, z35⟩, st35⟩ := X33.virtualBack hx (y := (⟨"java/lang/String", "equals", "(Ljava/lang/Object;)Z"⟩ : MethodName)) (z := (⟨"java/lang/String", "equals", "(Ljava/lang/Object;)Z"⟩ : MethodName)) hown (mvT hZ (hw _ (List.mem_of_getElem? (i := 23) rfl))) (mvT hZ (hw _ (List.mem_of_getElem? (i := 24) rfl))) (notFace_of_selects (args := #[]) (mvT hZ (hw _ (List.mem_of_getElem? (i := 26) rfl)))) (mvT hZ (hw _ (List.mem_of_getElem? (i := 26) rfl))) (mvT hZ (hw _ (List.mem_of_getElem? (i := 25) rfl))) (by decide) (backOf (W := 1) (rm3n l Z a0 hw [] ra29 a33 rb29 b33 ucs own_lost own_won h33 n0 Z33 E_ra29_33 F_coder_ra29_33 F_value_ra29_33 A_rb29_33 E_a33_33 F_coder_a33_33 F_value_a33_33 A_b33_33 S_COMPACT_STRINGS_33 uncs hne34) hZ (hw _ (List.mem_of_getElem? (i := 27) rfl)) (hw _ (List.mem_of_getElem? (i := 15) rfl)) (by decide) (by decide)) q35a q35c (g := (mkF m 49 #[.val (.int p0), .val (.int (3 : Int32)), .val (.ref u3), .val (.ref ra29), .val (.ref a30)] [(.ref a33), (.ref ra29), (.int (0 : Int32))])) rfl (by rw [hml]; rfl) (Steps.refl _) (argsL := [(.ref a33)]) (rest := [(.int (0 : Int32))]) (lenOf own_pd91 rfl) rfl (by show 2 * 0 + _ ≤ _; exact Nat.le_of_eq rfl) (hb hby at_49) (fun _ _ => ⟨rfl, e33, (by decide : 6 + 0 ≤ _), (by decide : 56 + 0 ≤ _)⟩)
        dsimp only [Pt.U, Pt.locs, Pt.cells, Pt.slots] at X35 l35 y35 z35 st35 hQ35
        replace y35 : 6 = k35 := y35.symm
        replace z35 : 56 = n35 := z35.symm
        subst y35 z35
        obtain ⟨rfl, N35q, e35⟩ := hQ35
        have N35 : Fr n0 L35 := by rw [l35]; exact Fr.app N32 N35q
        refine own_goW (fun tg k => st35.trans k) ?_
        show own_FinW _ _ _ _ _ _ _ _ _ (T35.setTop (mkF m 52 #[.val (.int p0), .val (.int (3 : Int32)), .val (.ref u3), .val (.ref ra29), .val (.ref a30)] [(.int (0 : Int32)), (.int (0 : Int32))]))
        refine own_goW (fun _ k => XS.icmpNo X35.here hx rfl (hb hby at_52) rfl (teq (by decide)).2 k) ?_
        show own_FinW _ _ _ _ _ _ _ _ _ (T35.setTop (mkF m 55 #[.val (.int p0), .val (.int (3 : Int32)), .val (.ref u3), .val (.ref ra29), .val (.ref a30)] []))
        refine own_goW (fun _ k => XS.iconst X35.here hx rfl (hb hby at_55) k) ?_
        show own_FinW _ _ _ _ _ _ _ _ _ (T35.setTop (mkF m 56 #[.val (.int p0), .val (.int (3 : Int32)), .val (.ref u3), .val (.ref ra29), .val (.ref a30)] [(.int (1 : Int32))]))
        refine own_goW (fun _ k => XS.goto X35.here hx rfl (pc0 := 56) (pc' := 60) rfl (hb hby at_56) (by decide) (by decide) k) ?_
        show own_FinW _ _ _ _ _ _ _ _ _ (T35.setTop (mkF m 60 #[.val (.int p0), .val (.int (3 : Int32)), .val (.ref u3), .val (.ref ra29), .val (.ref a30)] [(.int (1 : Int32))]))
        refine own_retW X35 hx hlk hS33 (by rw [e35]; exact hk33) Bd.returns rfl (Or.inl ⟨rfl, by simp, _, rfl⟩) (hb hby at_60) (Nat.le_of_ble_eq_true rfl) (Nat.le_of_ble_eq_true rfl) (own_chT X35 hZ hS33 (own_EW hw) e35 hC33) ?_
        exact ⟨(own_lf_own_f0_4 (p0 := p0) hs1 hs9 hs18), N35, trivial⟩
theorem own_plain (p0 : Int32) : own_f0 p0 = 1 := by
  simp only [own_f0]
  repeat' split
  all_goals rfl
set_option maxRecDepth 65536 in
set_option maxHeartbeats 40000000 in
theorem comes_1 {Post : Tables → Env → Array Value → State → Outcome → State → Prop} (hpost : ∀ tb e args s v u, (limb_1_1.after args s (.returned v) u = true ∧ limb_1_2.after args s (.returned v) u = true ∧ True) → ReturnedEndW s (.returned v) u (Jvm.fieldLocs frame_1_writes args s ++ Jvm.arrayLocs frame_1_arrays args s ++ Jvm.staticLocs frame_1_statics s) 8 4160 → Post tb e args s (.returned v) u) :
    ArmFor flags0 classFile x code maxLocals ret World_1 tables_1 room_1 Calls_1 rest_1 Pre_1 Post := by
  intro l hfl _ _ p e ha hc hk s m args below hf hA hF happ hP
  obtain ⟨hcalls, hrest, hpre⟩ := hP
  obtain ⟨-, -, -, hnamed, -, -, -, hat⟩ := (Spec.applies_iff hf).mp happ
  obtain ⟨hg, hn⟩ := and_e (Cond.before_iff.mp (show (Jvm.Cond.and given_1 narrow_1).before args s = true from hpre))
  obtain ⟨g1, g2⟩ := and_e hg
  obtain ⟨w0, rfl⟩ : ∃ w0 : Value, args = #[w0] := by
    have hs : args.size = 1 := by simpa [Cond.value, given_1] using g1
    obtain ⟨L⟩ := args
    match L, hs with
    | [w0], _ => exact ⟨w0, rfl⟩
  have hw := fun d (hd : d ∈ tables_1) => atoms_spec (ws := Jvm.Cond.code x code maxLocals ret :: tables_1) hat d (List.mem_cons_of_mem _ hd)
  have hfit : Fit s := fun {y c} hc i hi => by
    obtain ⟨ha, rfl⟩ := Array.getElem?_eq_some_iff.mp hc
    have q := List.all_eq_true.mp ((Array.all_eq_true_iff_forall_mem.mp hF) _ (Array.getElem_mem ha)) i (List.mem_range.mpr hi)
    simpa [Array.getElem?_eq_getElem hi] using q
  obtain ⟨hsets, hown0⟩ := atoms_of _ (rest_1_c_eq ▸ (show rest_1_c.before _ s = true from hrest))
  have hr0 := Cond.before_iff.mp hown0
  obtain ⟨i0, ei0⟩ := is_v g2
  obtain rfl : w0 = (.int i0) := Option.some.inj ei0
  obtain ⟨nx0, hn⟩ := and_e hn
  obtain ⟨nf0, hn⟩ := and_e hn
  obtain ⟨e0, -, -, -, ev0, -⟩ := Cond.exactly_spec (Cond.before_iff.mpr nx0)
  have hx0 := Exa.start ev0 nx0
  have hs0 := Sta.start ev0 (Or.inr ⟨hw _ (List.mem_of_getElem? (i := 5) rfl), hw _ (List.mem_of_getElem? (i := 6) rfl)⟩)
  have ef0 := Cond.eq_int (Cond.before_iff.mpr nf0) rfl
  rw [Term.eval, ev0] at ef0
  have hf0 := Fld.start (show s.fieldOf? e0 "com/example/cordon/cordon/Ending" "won" "Z" = some (.int 1) from ef0)
  obtain ⟨nx3, hn⟩ := and_e hn
  obtain ⟨nf3, hn⟩ := and_e hn
  obtain ⟨e3, -, -, -, ev3, -⟩ := Cond.exactly_spec (Cond.before_iff.mpr nx3)
  have hx3 := Exa.start ev3 nx3
  have hs3 := Sta.start ev3 (Or.inr ⟨hw _ (List.mem_of_getElem? (i := 5) rfl), hw _ (List.mem_of_getElem? (i := 34) rfl)⟩)
  have ef3 := Cond.eq_int (Cond.before_iff.mpr nf3) rfl
  rw [Term.eval, ev3] at ef3
  have hf3 := Fld.start (show s.fieldOf? e3 "com/example/cordon/cordon/Ending" "won" "Z" = some (.int 0) from ef3)
  obtain ⟨nx2, hn⟩ := and_e hn
  obtain ⟨nf2, hn⟩ := and_e hn
  obtain ⟨e2, -, -, -, ev2, -⟩ := Cond.exactly_spec (Cond.before_iff.mpr nx2)
  have hx2 := Exa.start ev2 nx2
  have hs2 := Sta.start ev2 (Or.inr ⟨hw _ (List.mem_of_getElem? (i := 5) rfl), hw _ (List.mem_of_getElem? (i := 47) rfl)⟩)
  have ef2 := Cond.eq_int (Cond.before_iff.mpr nf2) rfl
  rw [Term.eval, ev2] at ef2
  have hf2 := Fld.start (show s.fieldOf? e2 "com/example/cordon/cordon/Ending" "won" "Z" = some (.int 0) from ef2)
  obtain ⟨nx1, hn⟩ := and_e hn
  have nf1 := hn
  obtain ⟨e1, -, -, -, ev1, -⟩ := Cond.exactly_spec (Cond.before_iff.mpr nx1)
  have hx1 := Exa.start ev1 nx1
  have hs1 := Sta.start ev1 (Or.inr ⟨hw _ (List.mem_of_getElem? (i := 5) rfl), hw _ (List.mem_of_getElem? (i := 49) rfl)⟩)
  have ef1 := Cond.eq_int (Cond.before_iff.mpr nf1) rfl
  rw [Term.eval, ev1] at ef1
  have hf1 := Fld.start (show s.fieldOf? e1 "com/example/cordon/cordon/Ending" "won" "Z" = some (.int 0) from ef1)
  obtain ⟨cs, ecs⟩ := Cond.isInt_spec (hsets _ (List.mem_of_getElem? (i := 1) rfl))
  have hc' := Sta.start ecs (Or.inl (hsets _ (List.mem_of_getElem? (i := 0) rfl)))
  have hcs : ¬ (cs = (0 : Int32)) := fun h => by
    have q := (hsets _ (List.mem_of_getElem? (i := 2) rfl))
    simp only [Cond.before, Cond.holds, Cond.value, ecs, h] at q
    simp [Term.eval] at q
  have hCH : CHv s own_EL s.vm s.heap := CHv.start (own_EW hw) (fun p hp => hcalls.1 p (show p ∈ consts_1 from hp)) (hsets _ (List.mem_of_getElem? (i := 2) rfl)) (hw _ (List.mem_of_getElem? (i := 17) rfl)) (hw _ (List.mem_of_getElem? (i := 16) rfl))
  obtain ⟨n, o, h1, h2, h3, _, L, rfl, ⟨rfl, N, hrest'⟩, -, hq⟩ := rm0 l s _ hw tables_1 i0 e0 e1 e2 e3 cs s.heap s.heap.size (Nat.le_refl _) hs0 hs1 hs2 hs3 hx0 hx1 hx2 hx3 hf0 hf1 hf2 hf3 hc' hcs p e ha hc hk s m _ below hf ((Spec.applies_iff_loose hf).mp happ).1 ⟨rfl, State.Warmed39.refl s, rfl, hCH⟩ trivial
  refine ⟨n, _, h1, h2, h3, hpost _ _ _ _ _ _ ⟨Cond.after_iff.mpr rfl, Cond.after_iff.mpr (eq_i res_at (Term.int_eval (1)) (congrArg Value.int (own_plain i0))), trivial⟩ ⟨hq.1, hq.2.1, hq.2.2.1, (hq.2.2.2.sift fun y hy => Or.inr (N y hy)).mono (by decide) (by decide)⟩⟩
theorem main_1_1 : Claimed_1_1 := comes_1 fun _ _ _ _ _ _ h hF => ⟨h.1, hF⟩
theorem main_1_2 : Claimed_1_2 := comes_1 fun _ _ _ _ _ _ h hF => ⟨h.2.1, hF⟩
end Jvm.Pilot.@@N@@
namespace Jvm.Pilot.@@N@@
open Jvm Jvm.ClassFile Sem Op Lib Jvm.Free Jvm.Stand Jvm.Pilot.@@N@@.Jvm.D
/-! MADE BY PROGRAM (witnessworld.py) out of the Statement's table words and the real class files: 18 classes; the members and pool entries that the words name. The judged class is class 1, her method 2. -/
namespace start1
open Jvm.ClassFile
def u (s : String) : CpInfo := .utf8 (stringToUtf16 s)
/-- a pool by its gaps: so many unusable entries, then the entry; so many at the end -/
def gap : Nat → List CpInfo → List CpInfo
  | 0, r => r
  | n + 1, r => .unusable :: gap n r
def poolList (es : List (Nat × CpInfo)) (last : Nat) : List CpInfo := es.foldr (fun e r => gap e.1 (e.2 :: r)) (gap last [])
def pool (es : List (Nat × CpInfo)) (last : Nat) : Array CpInfo := ⟨poolList es last⟩
def fileOf (pool : Array CpInfo) (this : Nat) (attrs : Array Attribute := #[]) (ms : Array MethodInfo := #[]) (fl : Nat := 33) (sup : Nat := 0) (ifs : Array Nat := #[]) (fds : Array FieldInfo := #[]) : ClassFile where
  minorVersion := 0
  majorVersion := 65
  constantPool := pool
  accessFlags := fl
  thisClass := this
  superClass := sup
  interfaces := ifs
  fields := fds
  methods := ms
  attributes := attrs
def plain (name : String) (sup : Option ClassId) : Class where
  name := name
  kind := .ordinary
  loader := none
  accessFlags := 33
  super := sup
  interfaces := #[]
  cf := none
  fields := #[]
  methods := #[]
  instanceTypes := #[]
  staticTypes := #[]
  resolved := #[]
  callSites := []
  init := .initialized
  statics := none
  mirror := none

def pool0 : Array CpInfo := pool [(5, u "<init>"), (0, u "()V"), (1, .class_ 10), (1, u "java/lang/Object")] 113

def k0m0 : Method := { name := "<init>", desc := "()V", sig := { parameters := [], returnType := none }, accessFlags := 1, code := none }
/-- java/lang/Object -/
def k0 : Class := { plain "java/lang/Object" none with
  accessFlags := 33
  interfaces := #[]
  cf := some (fileOf pool0 8 #[] #[{ accessFlags := 1, nameIndex := 5, descriptorIndex := 6, attributes := #[] }] 33 0 #[] #[])
  fields := #[]
  methods := #[k0m0]
  instanceTypes := #[]
  staticTypes := #[]
  resolved := Array.replicate 124 none
  statics := none }

def pool1 : Array CpInfo := pool [(2, .class_ 4), (1, u "java/lang/Object"), (0, u "<init>"), (0, u "()V"), (0, .fieldref 8 9), (0, .class_ 10), (0, .nameAndType 11 12), (0, u "com/example/cordon/cordon/Ending"), (0, u "CURED"), (0, u "Lcom/example/cordon/cordon/Ending;"), (0, .fieldref 8 14), (0, .nameAndType 15 12), (0, u "OUTBREAKS"), (0, .fieldref 8 17), (0, .nameAndType 18 12), (0, u "CUBES"), (0, .fieldref 8 20), (0, .nameAndType 21 12), (0, u "CARDS"), (0, .methodref 23 24), (0, .class_ 25), (0, .nameAndType 26 27), (0, u "com/example/cordon/cordon/EndingResultPinLaw"), (0, u "pick"), (0, u "(I)Lcom/example/cordon/cordon/Ending;"), (0, .methodref 8 29), (0, .nameAndType 30 31), (0, u "result"), (0, u "()Ljava/lang/String;"), (0, .string 33), (0, u "won"), (0, .string 35), (0, u "lost"), (0, .methodref 37 38), (0, .class_ 39), (0, .nameAndType 40 41), (0, u "java/lang/String"), (0, u "equals"), (0, u "(Ljava/lang/Object;)Z"), (0, .methodref 8 43), (0, .nameAndType 33 44), (0, u "()Z"), (3, u "law"), (0, u "(I)Z")] 2

def k1m0 : Method := { name := "<init>", desc := "()V", sig := { parameters := [], returnType := none }, accessFlags := 1, code := none }
def k1c1 : Code := { maxStack := 2, maxLocals := 1, code := method_2_code, exceptionTable := #[], attributes := #[] }
def k1m1 : Method := { name := "pick", desc := "(I)Lcom/example/cordon/cordon/Ending;", sig := { parameters := [.int], returnType := some (.object "com/example/cordon/cordon/Ending") }, accessFlags := 10, code := some k1c1 }
def k1c2 : Code := { maxStack := 3, maxLocals := 5, code := code, exceptionTable := #[], attributes := #[] }
def k1m2 : Method := { name := "law", desc := "(I)Z", sig := { parameters := [.int], returnType := some .boolean }, accessFlags := 9, code := some k1c2 }
/-- com/example/cordon/cordon/EndingResultPinLaw -/
def k1 : Class := { plain "com/example/cordon/cordon/EndingResultPinLaw" (some 0) with
  accessFlags := 49
  interfaces := #[]
  cf := some (fileOf pool1 23 #[] #[{ accessFlags := 1, nameIndex := 5, descriptorIndex := 6, attributes := #[] }, { accessFlags := 10, nameIndex := 26, descriptorIndex := 27, attributes := #[] }, { accessFlags := 9, nameIndex := 48, descriptorIndex := 49, attributes := #[] }] 49 2 #[] #[])
  fields := #[]
  methods := #[k1m0, k1m1, k1m2]
  instanceTypes := #[]
  staticTypes := #[]
  resolved := Array.replicate 52 none
  statics := none }

def pool2 : Array CpInfo := pool [(1, .class_ 2), (0, u "java/lang/constant/Constable"), (0, .class_ 4), (0, u "java/lang/Object")] 6

/-- java/lang/constant/Constable -/
def k2 : Class := { plain "java/lang/constant/Constable" (some 0) with
  accessFlags := 1537
  interfaces := #[]
  cf := some (fileOf pool2 1 #[] #[] 1537 3 #[] #[])
  fields := #[]
  methods := #[]
  instanceTypes := #[]
  staticTypes := #[]
  resolved := Array.replicate 11 none
  statics := none }

def pool3 : Array CpInfo := pool [(1, .class_ 2), (0, u "java/lang/Comparable"), (0, .class_ 4), (0, u "java/lang/Object")] 7

/-- java/lang/Comparable -/
def k3 : Class := { plain "java/lang/Comparable" (some 0) with
  accessFlags := 1537
  interfaces := #[]
  cf := some (fileOf pool3 1 #[] #[] 1537 3 #[] #[])
  fields := #[]
  methods := #[]
  instanceTypes := #[]
  staticTypes := #[]
  resolved := Array.replicate 12 none
  statics := none }

def pool4 : Array CpInfo := pool [(1, .class_ 2), (0, u "java/io/Serializable"), (0, .class_ 4), (0, u "java/lang/Object")] 2

/-- java/io/Serializable -/
def k4 : Class := { plain "java/io/Serializable" (some 0) with
  accessFlags := 1537
  interfaces := #[]
  cf := some (fileOf pool4 1 #[] #[] 1537 3 #[] #[])
  fields := #[]
  methods := #[]
  instanceTypes := #[]
  staticTypes := #[]
  resolved := Array.replicate 7 none
  statics := none }

def pool5 : Array CpInfo := pool [(2, .class_ 4), (1, u "java/lang/Enum"), (0, u "name"), (0, u "Ljava/lang/String;"), (2, u "ordinal"), (0, u "I"), (1, .class_ 14), (1, u "java/lang/Object"), (4, u "hash"), (86, .class_ 108), (1, u "java/lang/Enum$EnumDesc"), (2, .class_ 112), (0, u "java/lang/constant/Constable"), (0, .class_ 114), (0, u "java/lang/Comparable"), (0, .class_ 116), (0, u "java/io/Serializable")] 87

/-- java/lang/Enum -/
def k5 : Class := { plain "java/lang/Enum" (some 0) with
  accessFlags := 1057
  interfaces := #[2, 3, 4]
  cf := some (fileOf pool5 2 #[.nestMembers #[106]] #[] 1057 12 #[111, 113, 115] #[{ accessFlags := 18, nameIndex := 5, descriptorIndex := 6, attributes := #[] }, { accessFlags := 18, nameIndex := 9, descriptorIndex := 10, attributes := #[] }, { accessFlags := 2, nameIndex := 19, descriptorIndex := 10, attributes := #[] }])
  fields := #[{ name := "name", type := (.object "java/lang/String"), accessFlags := 18, slot := 0, constantValue := 0 }, { name := "ordinal", type := .int, accessFlags := 18, slot := 1, constantValue := 0 }, { name := "hash", type := .int, accessFlags := 2, slot := 2, constantValue := 0 }]
  methods := #[]
  instanceTypes := #[(.object "java/lang/String"), .int, .int]
  staticTypes := #[]
  resolved := Array.replicate 204 none
  statics := none }

def pool6 : Array CpInfo := pool [(1, .class_ 2), (0, u "com/example/cordon/cordon/Ending"), (2, u "CURED"), (0, u "Lcom/example/cordon/cordon/Ending;"), (2, u "OUTBREAKS"), (2, u "CUBES"), (2, u "CARDS"), (2, u "$VALUES"), (0, u "[Lcom/example/cordon/cordon/Ending;"), (6, .class_ 28), (1, u "java/lang/Enum"), (9, u "()Ljava/lang/String;"), (14, u "reason"), (0, u "Ljava/lang/String;"), (0, .fieldref 1 56), (0, .nameAndType 57 58), (0, u "won"), (0, u "Z"), (0, .string 57), (0, .string 61), (0, u "lost"), (18, u "()Z"), (0, u "result")] 6

def k6c0 : Code := { maxStack := 1, maxLocals := 1, code := prog_7_method_4_code, exceptionTable := #[], attributes := #[] }
def k6m0 : Method := { name := "won", desc := "()Z", sig := { parameters := [], returnType := some .boolean }, accessFlags := 0, code := some k6c0 }
def k6c1 : Code := { maxStack := 1, maxLocals := 1, code := prog_7_method_5_code, exceptionTable := #[], attributes := #[] }
def k6m1 : Method := { name := "result", desc := "()Ljava/lang/String;", sig := { parameters := [], returnType := some (.object "java/lang/String") }, accessFlags := 0, code := some k6c1 }
/-- com/example/cordon/cordon/Ending -/
def k6 : Class := { plain "com/example/cordon/cordon/Ending" (some 5) with
  accessFlags := 16432
  interfaces := #[]
  cf := some (fileOf pool6 1 #[] #[{ accessFlags := 0, nameIndex := 57, descriptorIndex := 80, attributes := #[] }, { accessFlags := 0, nameIndex := 81, descriptorIndex := 38, attributes := #[] }] 16432 26 #[] #[{ accessFlags := 16409, nameIndex := 5, descriptorIndex := 6, attributes := #[] }, { accessFlags := 16409, nameIndex := 9, descriptorIndex := 6, attributes := #[] }, { accessFlags := 16409, nameIndex := 12, descriptorIndex := 6, attributes := #[] }, { accessFlags := 16409, nameIndex := 15, descriptorIndex := 6, attributes := #[] }, { accessFlags := 18, nameIndex := 57, descriptorIndex := 58, attributes := #[] }, { accessFlags := 18, nameIndex := 53, descriptorIndex := 54, attributes := #[] }, { accessFlags := 4122, nameIndex := 18, descriptorIndex := 19, attributes := #[] }])
  fields := #[{ name := "CURED", type := (.object "com/example/cordon/cordon/Ending"), accessFlags := 16409, slot := 0, constantValue := 0 }, { name := "OUTBREAKS", type := (.object "com/example/cordon/cordon/Ending"), accessFlags := 16409, slot := 1, constantValue := 0 }, { name := "CUBES", type := (.object "com/example/cordon/cordon/Ending"), accessFlags := 16409, slot := 2, constantValue := 0 }, { name := "CARDS", type := (.object "com/example/cordon/cordon/Ending"), accessFlags := 16409, slot := 3, constantValue := 0 }, { name := "won", type := .boolean, accessFlags := 18, slot := 3, constantValue := 0 }, { name := "reason", type := (.object "java/lang/String"), accessFlags := 18, slot := 4, constantValue := 0 }, { name := "$VALUES", type := (.array (.object "com/example/cordon/cordon/Ending")), accessFlags := 4122, slot := 4, constantValue := 0 }]
  methods := #[k6m0, k6m1]
  instanceTypes := #[(.object "java/lang/String"), .int, .int, .boolean, (.object "java/lang/String")]
  staticTypes := #[(.object "com/example/cordon/cordon/Ending"), (.object "com/example/cordon/cordon/Ending"), (.object "com/example/cordon/cordon/Ending"), (.object "com/example/cordon/cordon/Ending"), (.array (.object "com/example/cordon/cordon/Ending"))]
  resolved := Array.replicate 88 none
  statics := some 0 }

def pool7 : Array CpInfo := pool [(2, .class_ 4), (1, u "java/lang/CharSequence"), (42, .class_ 48), (0, u "java/lang/CharSequence$1CodePointIterator"), (10, .class_ 60), (0, u "java/lang/CharSequence$1CharIterator"), (5, .class_ 67), (0, u "java/lang/Object")] 63

/-- java/lang/CharSequence -/
def k7 : Class := { plain "java/lang/CharSequence" (some 0) with
  accessFlags := 1537
  interfaces := #[]
  cf := some (fileOf pool7 2 #[.nestMembers #[47, 59]] #[] 1537 66 #[] #[])
  fields := #[]
  methods := #[]
  instanceTypes := #[]
  staticTypes := #[]
  resolved := Array.replicate 131 none
  statics := none }

def pool8 : Array CpInfo := pool [(1, .class_ 2), (0, u "java/lang/constant/ConstantDesc"), (0, .class_ 4), (0, u "java/lang/Object")] 32

/-- java/lang/constant/ConstantDesc -/
def k8 : Class := { plain "java/lang/constant/ConstantDesc" (some 0) with
  accessFlags := 1537
  interfaces := #[]
  cf := some (fileOf pool8 1 #[] #[] 1537 3 #[] #[])
  fields := #[]
  methods := #[]
  instanceTypes := #[]
  staticTypes := #[]
  resolved := Array.replicate 37 none
  statics := none }

def pool9 : Array CpInfo := pool [(2, .class_ 4), (1, u "java/lang/Object"), (0, u "<init>"), (0, u "()V"), (2, .fieldref 10 11), (0, .class_ 12), (0, .nameAndType 13 14), (0, u "java/lang/String"), (0, u "value"), (0, u "[B"), (0, .fieldref 10 16), (0, .nameAndType 17 18), (0, u "coder"), (0, u "B"), (2, u "hash"), (0, u "I"), (2, u "hashIsZero"), (0, u "Z"), (11, .fieldref 10 39), (0, .nameAndType 40 26), (0, u "COMPACT_STRINGS"), (66, .class_ 109), (1, u "java/lang/StringLatin1"), (431, .methodref 107 542), (0, .nameAndType 543 544), (0, u "equals"), (0, u "([B[B)Z"), (28, u "(Ljava/lang/Object;)Z"), (1, .class_ 576), (0, u "java/lang/CharSequence"), (22, u "CASE_INSENSITIVE_ORDER"), (0, u "Ljava/util/Comparator;"), (500, u "serialPersistentFields"), (0, u "[Ljava/io/ObjectStreamField;"), (0, .class_ 1104), (0, u "java/lang/String$CaseInsensitiveComparator"), (1, .class_ 1107), (0, u "java/io/Serializable"), (0, .class_ 1109), (0, u "java/lang/Comparable"), (0, .class_ 1111), (0, u "java/lang/constant/Constable"), (0, .class_ 1113), (0, u "java/lang/constant/ConstantDesc"), (2, u "serialVersionUID"), (0, u "J"), (3, u "REPL"), (0, u "C"), (2, u "LATIN1"), (1, u "UTF16")] 323

def k9m0 : Method := { name := "<init>", desc := "()V", sig := { parameters := [], returnType := none }, accessFlags := 1, code := none }
def k9c1 : Code := { maxStack := 2, maxLocals := 3, code := jdk_42_method_66_code, exceptionTable := #[], attributes := #[] }
def k9m1 : Method := { name := "equals", desc := "(Ljava/lang/Object;)Z", sig := { parameters := [(.object "java/lang/Object")], returnType := some .boolean }, accessFlags := 1, code := some k9c1 }
/-- java/lang/String -/
def k9 : Class := { plain "java/lang/String" (some 0) with
  accessFlags := 49
  interfaces := #[4, 3, 7, 2, 8]
  cf := some (fileOf pool9 10 #[.nestMembers #[1103]] #[{ accessFlags := 1, nameIndex := 5, descriptorIndex := 6, attributes := #[] }, { accessFlags := 1, nameIndex := 543, descriptorIndex := 573, attributes := #[] }] 49 2 #[1106, 1108, 575, 1110, 1112] #[{ accessFlags := 18, nameIndex := 13, descriptorIndex := 14, attributes := #[] }, { accessFlags := 18, nameIndex := 17, descriptorIndex := 18, attributes := #[] }, { accessFlags := 2, nameIndex := 21, descriptorIndex := 22, attributes := #[] }, { accessFlags := 2, nameIndex := 25, descriptorIndex := 26, attributes := #[] }, { accessFlags := 26, nameIndex := 1116, descriptorIndex := 1117, attributes := #[] }, { accessFlags := 24, nameIndex := 40, descriptorIndex := 26, attributes := #[] }, { accessFlags := 26, nameIndex := 1101, descriptorIndex := 1102, attributes := #[] }, { accessFlags := 26, nameIndex := 1121, descriptorIndex := 1122, attributes := #[] }, { accessFlags := 25, nameIndex := 599, descriptorIndex := 600, attributes := #[] }, { accessFlags := 24, nameIndex := 1125, descriptorIndex := 18, attributes := #[] }, { accessFlags := 24, nameIndex := 1127, descriptorIndex := 18, attributes := #[] }])
  fields := #[{ name := "value", type := (.array .byte), accessFlags := 18, slot := 0, constantValue := 0 }, { name := "coder", type := .byte, accessFlags := 18, slot := 1, constantValue := 0 }, { name := "hash", type := .int, accessFlags := 2, slot := 2, constantValue := 0 }, { name := "hashIsZero", type := .boolean, accessFlags := 2, slot := 3, constantValue := 0 }, { name := "serialVersionUID", type := .long, accessFlags := 26, slot := 0, constantValue := 0 }, { name := "COMPACT_STRINGS", type := .boolean, accessFlags := 24, slot := 1, constantValue := 0 }, { name := "serialPersistentFields", type := (.array (.object "java/io/ObjectStreamField")), accessFlags := 26, slot := 2, constantValue := 0 }, { name := "REPL", type := .char, accessFlags := 26, slot := 3, constantValue := 0 }, { name := "CASE_INSENSITIVE_ORDER", type := (.object "java/util/Comparator"), accessFlags := 25, slot := 4, constantValue := 0 }, { name := "LATIN1", type := .byte, accessFlags := 24, slot := 5, constantValue := 0 }, { name := "UTF16", type := .byte, accessFlags := 24, slot := 6, constantValue := 0 }]
  methods := #[k9m0, k9m1]
  instanceTypes := #[(.array .byte), .byte, .int, .boolean]
  staticTypes := #[.long, .boolean, (.array (.object "java/io/ObjectStreamField")), .char, (.object "java/util/Comparator"), .byte, .byte]
  resolved := Array.replicate 1451 none
  statics := some 1 }

def pool10 : Array CpInfo := pool [(4, .class_ 6), (1, u "java/lang/Object"), (0, u "<init>"), (0, u "()V"), (5, .class_ 16), (1, u "java/lang/StringLatin1"), (104, u "$assertionsDisabled"), (0, u "Z"), (98, .class_ 223), (1, u "java/lang/StringLatin1$LinesSpliterator"), (57, u "equals"), (0, u "([B[B)Z"), (107, .class_ 391), (0, u "java/lang/StringLatin1$CharsSpliterator")] 3

def k10m0 : Method := { name := "<init>", desc := "()V", sig := { parameters := [], returnType := none }, accessFlags := 0, code := none }
def k10c1 : Code := { maxStack := 3, maxLocals := 3, code := jdk_43_method_13_code, exceptionTable := #[], attributes := #[] }
def k10m1 : Method := { name := "equals", desc := "([B[B)Z", sig := { parameters := [(.array .byte), (.array .byte)], returnType := some .boolean }, accessFlags := 9, code := some k10c1 }
/-- java/lang/StringLatin1 -/
def k10 : Class := { plain "java/lang/StringLatin1" (some 0) with
  accessFlags := 48
  interfaces := #[]
  cf := some (fileOf pool10 14 #[.nestMembers #[390, 221]] #[{ accessFlags := 0, nameIndex := 7, descriptorIndex := 8, attributes := #[] }, { accessFlags := 9, nameIndex := 281, descriptorIndex := 282, attributes := #[] }] 48 4 #[] #[{ accessFlags := 4120, nameIndex := 121, descriptorIndex := 122, attributes := #[] }])
  fields := #[{ name := "$assertionsDisabled", type := .boolean, accessFlags := 4120, slot := 0, constantValue := 0 }]
  methods := #[k10m0, k10m1]
  instanceTypes := #[]
  staticTypes := #[.boolean]
  resolved := Array.replicate 395 none
  statics := none }

def pool11 : Array CpInfo := pool [(2, .class_ 4), (1, u "java/lang/Object"), (0, u "<init>"), (0, u "()V"), (17, .class_ 26), (1, u "jdk/internal/util/Preconditions"), (28, .class_ 56), (0, u "jdk/internal/util/Preconditions$4"), (57, .class_ 115), (0, u "jdk/internal/util/Preconditions$1"), (7, u "SIOOBE_FORMATTER"), (0, u "Ljava/util/function/BiFunction;"), (0, .class_ 126), (0, u "jdk/internal/util/Preconditions$2"), (3, u "AIOOBE_FORMATTER"), (0, .class_ 132), (0, u "jdk/internal/util/Preconditions$3"), (3, u "IOOBE_FORMATTER")] 57

def k11m0 : Method := { name := "<init>", desc := "()V", sig := { parameters := [], returnType := none }, accessFlags := 1, code := none }
/-- jdk/internal/util/Preconditions -/
def k11 : Class := { plain "jdk/internal/util/Preconditions" (some 0) with
  accessFlags := 33
  interfaces := #[]
  cf := some (fileOf pool11 24 #[.nestMembers #[55, 131, 125, 114]] #[{ accessFlags := 1, nameIndex := 5, descriptorIndex := 6, attributes := #[] }] 33 2 #[] #[{ accessFlags := 25, nameIndex := 123, descriptorIndex := 124, attributes := #[] }, { accessFlags := 25, nameIndex := 130, descriptorIndex := 124, attributes := #[] }, { accessFlags := 25, nameIndex := 136, descriptorIndex := 124, attributes := #[] }])
  fields := #[{ name := "SIOOBE_FORMATTER", type := (.object "java/util/function/BiFunction"), accessFlags := 25, slot := 0, constantValue := 0 }, { name := "AIOOBE_FORMATTER", type := (.object "java/util/function/BiFunction"), accessFlags := 25, slot := 1, constantValue := 0 }, { name := "IOOBE_FORMATTER", type := (.object "java/util/function/BiFunction"), accessFlags := 25, slot := 2, constantValue := 0 }]
  methods := #[k11m0]
  instanceTypes := #[]
  staticTypes := #[(.object "java/util/function/BiFunction"), (.object "java/util/function/BiFunction"), (.object "java/util/function/BiFunction")]
  resolved := Array.replicate 194 none
  statics := some 2 }

def pool12 : Array CpInfo := pool [(9, u "<init>"), (6, .class_ 18), (1, u "java/lang/Object"), (0, u "()V"), (1, .class_ 23), (1, u "jdk/internal/util/ArraysSupport"), (0, u "LOG2_ARRAY_LONG_INDEX_SCALE"), (0, u "I"), (2, u "U"), (0, u "Ljdk/internal/misc/Unsafe;"), (8, u "BIG_ENDIAN"), (0, u "Z"), (8, u "LOG2_BYTE_BIT_SIZE"), (4, u "LOG2_ARRAY_INT_INDEX_SCALE"), (54, u "JLA"), (0, u "Ljdk/internal/access/JavaLangAccess;"), (11, u "LOG2_ARRAY_BOOLEAN_INDEX_SCALE"), (9, u "LOG2_ARRAY_BYTE_INDEX_SCALE"), (5, u "LOG2_ARRAY_CHAR_INDEX_SCALE"), (5, u "LOG2_ARRAY_SHORT_INDEX_SCALE"), (18, u "LOG2_ARRAY_FLOAT_INDEX_SCALE"), (24, u "LOG2_ARRAY_DOUBLE_INDEX_SCALE"), (89, u "T_BOOLEAN"), (2, u "T_CHAR"), (1, u "T_FLOAT"), (1, u "T_DOUBLE"), (1, u "T_BYTE"), (1, u "T_SHORT"), (1, u "T_INT"), (1, u "T_LONG"), (1, u "SOFT_MAX_ARRAY_LENGTH")] 83

def k12m0 : Method := { name := "<init>", desc := "()V", sig := { parameters := [], returnType := none }, accessFlags := 2, code := none }
/-- jdk/internal/util/ArraysSupport -/
def k12 : Class := { plain "jdk/internal/util/ArraysSupport" (some 0) with
  accessFlags := 33
  interfaces := #[]
  cf := some (fileOf pool12 21 #[] #[{ accessFlags := 2, nameIndex := 9, descriptorIndex := 19, attributes := #[] }] 33 16 #[] #[{ accessFlags := 24, nameIndex := 28, descriptorIndex := 29, attributes := #[] }, { accessFlags := 26, nameIndex := 38, descriptorIndex := 39, attributes := #[] }, { accessFlags := 25, nameIndex := 121, descriptorIndex := 25, attributes := #[] }, { accessFlags := 25, nameIndex := 131, descriptorIndex := 25, attributes := #[] }, { accessFlags := 25, nameIndex := 137, descriptorIndex := 25, attributes := #[] }, { accessFlags := 25, nameIndex := 143, descriptorIndex := 25, attributes := #[] }, { accessFlags := 25, nameIndex := 53, descriptorIndex := 25, attributes := #[] }, { accessFlags := 25, nameIndex := 24, descriptorIndex := 25, attributes := #[] }, { accessFlags := 25, nameIndex := 162, descriptorIndex := 25, attributes := #[] }, { accessFlags := 25, nameIndex := 187, descriptorIndex := 25, attributes := #[] }, { accessFlags := 26, nameIndex := 48, descriptorIndex := 25, attributes := #[] }, { accessFlags := 25, nameIndex := 277, descriptorIndex := 25, attributes := #[] }, { accessFlags := 25, nameIndex := 280, descriptorIndex := 25, attributes := #[] }, { accessFlags := 25, nameIndex := 282, descriptorIndex := 25, attributes := #[] }, { accessFlags := 25, nameIndex := 284, descriptorIndex := 25, attributes := #[] }, { accessFlags := 25, nameIndex := 286, descriptorIndex := 25, attributes := #[] }, { accessFlags := 25, nameIndex := 288, descriptorIndex := 25, attributes := #[] }, { accessFlags := 25, nameIndex := 290, descriptorIndex := 25, attributes := #[] }, { accessFlags := 25, nameIndex := 292, descriptorIndex := 25, attributes := #[] }, { accessFlags := 26, nameIndex := 108, descriptorIndex := 109, attributes := #[] }, { accessFlags := 25, nameIndex := 294, descriptorIndex := 25, attributes := #[] }])
  fields := #[{ name := "U", type := (.object "jdk/internal/misc/Unsafe"), accessFlags := 24, slot := 0, constantValue := 0 }, { name := "BIG_ENDIAN", type := .boolean, accessFlags := 26, slot := 1, constantValue := 0 }, { name := "LOG2_ARRAY_BOOLEAN_INDEX_SCALE", type := .int, accessFlags := 25, slot := 2, constantValue := 0 }, { name := "LOG2_ARRAY_BYTE_INDEX_SCALE", type := .int, accessFlags := 25, slot := 3, constantValue := 0 }, { name := "LOG2_ARRAY_CHAR_INDEX_SCALE", type := .int, accessFlags := 25, slot := 4, constantValue := 0 }, { name := "LOG2_ARRAY_SHORT_INDEX_SCALE", type := .int, accessFlags := 25, slot := 5, constantValue := 0 }, { name := "LOG2_ARRAY_INT_INDEX_SCALE", type := .int, accessFlags := 25, slot := 6, constantValue := 0 }, { name := "LOG2_ARRAY_LONG_INDEX_SCALE", type := .int, accessFlags := 25, slot := 7, constantValue := 0 }, { name := "LOG2_ARRAY_FLOAT_INDEX_SCALE", type := .int, accessFlags := 25, slot := 8, constantValue := 0 }, { name := "LOG2_ARRAY_DOUBLE_INDEX_SCALE", type := .int, accessFlags := 25, slot := 9, constantValue := 0 }, { name := "LOG2_BYTE_BIT_SIZE", type := .int, accessFlags := 26, slot := 10, constantValue := 0 }, { name := "T_BOOLEAN", type := .int, accessFlags := 25, slot := 11, constantValue := 0 }, { name := "T_CHAR", type := .int, accessFlags := 25, slot := 12, constantValue := 0 }, { name := "T_FLOAT", type := .int, accessFlags := 25, slot := 13, constantValue := 0 }, { name := "T_DOUBLE", type := .int, accessFlags := 25, slot := 14, constantValue := 0 }, { name := "T_BYTE", type := .int, accessFlags := 25, slot := 15, constantValue := 0 }, { name := "T_SHORT", type := .int, accessFlags := 25, slot := 16, constantValue := 0 }, { name := "T_INT", type := .int, accessFlags := 25, slot := 17, constantValue := 0 }, { name := "T_LONG", type := .int, accessFlags := 25, slot := 18, constantValue := 0 }, { name := "JLA", type := (.object "jdk/internal/access/JavaLangAccess"), accessFlags := 26, slot := 19, constantValue := 0 }, { name := "SOFT_MAX_ARRAY_LENGTH", type := .int, accessFlags := 25, slot := 20, constantValue := 0 }]
  methods := #[k12m0]
  instanceTypes := #[]
  staticTypes := #[(.object "jdk/internal/misc/Unsafe"), .boolean, .int, .int, .int, .int, .int, .int, .int, .int, .int, .int, .int, .int, .int, .int, .int, .int, .int, (.object "jdk/internal/access/JavaLangAccess"), .int]
  resolved := Array.replicate 378 none
  statics := none }

def pool13 : Array CpInfo := pool [(1, u "java/lang/Cloneable"), (0, .class_ 1), (0, u "java/lang/Object"), (0, .class_ 3)] 3

/-- java/lang/Cloneable -/
def k13 : Class := { plain "java/lang/Cloneable" (some 0) with
  accessFlags := 1537
  interfaces := #[]
  cf := some (fileOf pool13 2 #[] #[] 1537 4 #[] #[])
  fields := #[]
  methods := #[]
  instanceTypes := #[]
  staticTypes := #[]
  resolved := Array.replicate 8 none
  statics := none }

/-- the primitive byte -/
def k14 : Class := { plain "byte" none with kind := .primitive 'B', accessFlags := 0x411 }
/-- [B -/
def k15 : Class := { plain "[B" (some 0) with kind := .array 14 .byte, interfaces := #[13, 4], accessFlags := 1041 }

/-- the primitive int -/
def k16 : Class := { plain "int" none with kind := .primitive 'I', accessFlags := 0x411 }
/-- [I -/
def k17 : Class := { plain "[I" (some 0) with kind := .array 16 .int, interfaces := #[13, 4], accessFlags := 1041 }

def heap : Heap := #[{ cls := 6, slots := #[.ref 3, .ref 4, .ref 5, .ref 6, .null], vm := .statics 6 },
  { cls := 9, slots := #[.long 0, .int 1, .null, .int 0, .null, .int 0, .int 0], vm := .statics 9 },
  { cls := 11, slots := #[.null, .null, .null], vm := .statics 11 },
  { cls := 6, slots := #[.null, .int 0, .int 0, .int 1, .null], vm := .none },
  { cls := 6, slots := #[.null, .int 1, .int 0, .int 0, .null], vm := .none },
  { cls := 6, slots := #[.null, .int 2, .int 0, .int 0, .null], vm := .none },
  { cls := 6, slots := #[.null, .int 3, .int 0, .int 0, .null], vm := .none }]
def classes : Array Class := #[k0, k1, k2, k3, k4, k5, k6, k7, k8, k9, k10, k11, k12, k13, k14, k15, k16, k17]
def interned : List (Array UInt16 × Addr) := []
def slotsUsed : Nat := 35
def theMethod : MethodId := ⟨1, 2⟩
def args0 : Array Value := #[.int 1]
def aboutOver (below : List Frame) : State where
  vm := { classes := classes, interned := interned.toArray }
  heap := heap
  slotsUsed := slotsUsed
  threads := #[{ frames := .invoking theMethod args0 :: below }]
def below0 : List Frame := [.native { method := ⟨0, 0⟩, args := #[] }]
def about1 : State := aboutOver below0
def p0 : Program := .bare "" "" ""
def e0 : Env := launch0.env 0 0 0
theorem w_frames : about1.frames = Frame.invoking theMethod args0 :: below0 := rfl
set_option maxRecDepth 65536 in
theorem w_args : argsFit about1.vm theMethod args0 = true := by decide +kernel
set_option maxRecDepth 65536 in
theorem w_heap : heapFits about1 = true := by decide +kernel
set_option maxRecDepth 65536 in
theorem w_runnable : about1.curStatus? = some .runnable := by decide +kernel
set_option maxRecDepth 65536 in
theorem w_alone : about1.alone = true := by decide +kernel
set_option maxRecDepth 65536 in
theorem w_named : about1.methodNamed? x = some theMethod := by decide +kernel
set_option maxRecDepth 65536 in
theorem w_hears : about1.hears theMethod below0 = true := by decide +kernel
set_option maxRecDepth 65536 in
theorem w_ripe : about1.ripe theMethod args0 below0 = true := by decide +kernel
theorem w_running : about1.status = .running := rfl
set_option maxRecDepth 65536 in
theorem w_room : about1.hasRoom e0.platform room_1 = true :=
  launch0.hasRoom_least _ room_1 (by decide +kernel) (by decide +kernel) (by decide +kernel) (by decide +kernel) (by decide +kernel) (by decide +kernel)
theorem allAtoms_all (ts : List Jvm.Cond) (a : Array Jvm.Value) (st : Jvm.State) : (allAtoms ts).before a st = ts.all (fun c => c.before a st) := by
  induction ts with
  | nil => rfl
  | cons c t ih =>
    show (Jvm.Cond.and c (allAtoms t)).before a st = _
    rw [Jvm.Cond.before_and, ih, List.all_cons]
def words1 : List Jvm.Cond := Jvm.Cond.code x code maxLocals ret :: tables_1
/-- a 'code' word, met by the world's own term for the bytes: nothing is compared byte by byte -/
theorem code_word {y : MethodName} {bytes : ByteArray} {mx : Nat} {rt : Option FieldType} {a : Array Value} {s : State} {m : MethodId} {meth : Method} {c : Code} (h1 : s.methodNamed? y = some m) (h2 : s.vm.method? m = some meth) (h3 : meth.code = some c) (h4 : c.code = bytes)
    (h5 : (c.maxLocals == mx && c.exceptionTable.isEmpty && decide (c.maxStack ≤ mostOperands) && decide (meth.sig.returnType = rt) && !meth.locks && decide (parseMethodDescriptor y.desc = some meth.sig)) = true) : (Jvm.Cond.code y bytes mx rt).before a s = true := by
  simp only [Bool.and_eq_true, beq_iff_eq, Bool.not_eq_true', decide_eq_true_eq] at h5
  obtain ⟨⟨⟨⟨⟨g1, g2⟩, g3⟩, g4⟩, g5⟩, g6⟩ := h5
  simp [Cond.before, Cond.holds, Cond.value, h1, h2, h3, h4, g1, g2, g3, g4, g5, g6]
def isCode : Jvm.Cond → Bool
  | .code _ _ _ _ => true
  | _ => false
theorem all_split {L : List Jvm.Cond} {P : Jvm.Cond → Bool} (h1 : L.all (fun c => isCode c || P c) = true) (h2 : ∀ c ∈ L.filter isCode, P c = true) : L.all P = true := by
  refine List.all_eq_true.mpr fun c hc => ?_
  have h := List.all_eq_true.mp h1 c hc
  rcases Bool.eq_false_or_eq_true (isCode c) with hi | hi
  · exact h2 c (List.mem_filter.mpr ⟨hc, hi⟩)
  · simpa [hi] using h
set_option maxRecDepth 65536 in
theorem w_c0 : (Jvm.Cond.code x code maxLocals ret).before args0 about1 = true := code_word (m := ⟨1, 2⟩) (meth := k1m2) (c := k1c2) (by decide +kernel) rfl rfl rfl (by decide +kernel)
set_option maxRecDepth 65536 in
theorem w_c1 : (Jvm.Cond.code ({ cls := "com/example/cordon/cordon/EndingResultPinLaw", name := "pick", desc := "(I)Lcom/example/cordon/cordon/Ending;" } : Jvm.MethodName) method_2_code (1 : Nat) (Option.some (Jvm.ClassFile.FieldType.object "com/example/cordon/cordon/Ending"))).before args0 about1 = true := code_word (m := ⟨1, 1⟩) (meth := k1m1) (c := k1c1) (by decide +kernel) rfl rfl rfl (by decide +kernel)
set_option maxRecDepth 65536 in
theorem w_c2 : (Jvm.Cond.code ({ cls := "com/example/cordon/cordon/Ending", name := "result", desc := "()Ljava/lang/String;" } : Jvm.MethodName) prog_7_method_5_code (1 : Nat) (Option.some (Jvm.ClassFile.FieldType.object "java/lang/String"))).before args0 about1 = true := code_word (m := ⟨6, 1⟩) (meth := k6m1) (c := k6c1) (by decide +kernel) rfl rfl rfl (by decide +kernel)
set_option maxRecDepth 65536 in
theorem w_c3 : (Jvm.Cond.code ({ cls := "java/lang/String", name := "equals", desc := "(Ljava/lang/Object;)Z" } : Jvm.MethodName) jdk_42_method_66_code (3 : Nat) (Option.some Jvm.ClassFile.FieldType.boolean)).before args0 about1 = true := code_word (m := ⟨9, 1⟩) (meth := k9m1) (c := k9c1) (by decide +kernel) rfl rfl rfl (by decide +kernel)
set_option maxRecDepth 65536 in
theorem w_c4 : (Jvm.Cond.code ({ cls := "com/example/cordon/cordon/Ending", name := "won", desc := "()Z" } : Jvm.MethodName) prog_7_method_4_code (1 : Nat) (Option.some Jvm.ClassFile.FieldType.boolean)).before args0 about1 = true := code_word (m := ⟨6, 0⟩) (meth := k6m0) (c := k6c0) (by decide +kernel) rfl rfl rfl (by decide +kernel)
set_option maxRecDepth 65536 in
theorem w_c5 : (Jvm.Cond.code ({ cls := "java/lang/StringLatin1", name := "equals", desc := "([B[B)Z" } : Jvm.MethodName) jdk_43_method_13_code (3 : Nat) (Option.some Jvm.ClassFile.FieldType.boolean)).before args0 about1 = true := code_word (m := ⟨10, 1⟩) (meth := k10m1) (c := k10c1) (by decide +kernel) rfl rfl rfl (by decide +kernel)
def codes1 : List Jvm.Cond := [Jvm.Cond.code x code maxLocals ret, Jvm.Cond.code ({ cls := "com/example/cordon/cordon/EndingResultPinLaw", name := "pick", desc := "(I)Lcom/example/cordon/cordon/Ending;" } : Jvm.MethodName) method_2_code (1 : Nat) (Option.some (Jvm.ClassFile.FieldType.object "com/example/cordon/cordon/Ending")), Jvm.Cond.code ({ cls := "com/example/cordon/cordon/Ending", name := "result", desc := "()Ljava/lang/String;" } : Jvm.MethodName) prog_7_method_5_code (1 : Nat) (Option.some (Jvm.ClassFile.FieldType.object "java/lang/String")), Jvm.Cond.code ({ cls := "java/lang/String", name := "equals", desc := "(Ljava/lang/Object;)Z" } : Jvm.MethodName) jdk_42_method_66_code (3 : Nat) (Option.some Jvm.ClassFile.FieldType.boolean), Jvm.Cond.code ({ cls := "com/example/cordon/cordon/Ending", name := "won", desc := "()Z" } : Jvm.MethodName) prog_7_method_4_code (1 : Nat) (Option.some Jvm.ClassFile.FieldType.boolean), Jvm.Cond.code ({ cls := "java/lang/StringLatin1", name := "equals", desc := "([B[B)Z" } : Jvm.MethodName) jdk_43_method_13_code (3 : Nat) (Option.some Jvm.ClassFile.FieldType.boolean)]
set_option maxRecDepth 65536 in
theorem codes_eq : words1.filter isCode = codes1 := rfl
theorem w_codes : ∀ c ∈ words1.filter isCode, c.before args0 about1 = true := by
  rw [codes_eq]
  intro c hc
  simp only [codes1, List.mem_cons, List.not_mem_nil, or_false] at hc
  rcases hc with rfl | rfl | rfl | rfl | rfl | rfl
  · exact w_c0
  · exact w_c1
  · exact w_c2
  · exact w_c3
  · exact w_c4
  · exact w_c5
set_option maxRecDepth 65536 in
theorem w_t1 : (words1.take 24).all (fun c => isCode c || c.before args0 about1) = true := by decide +kernel
set_option maxRecDepth 65536 in
theorem w_t2 : ((words1.drop 24).take 24).all (fun c => isCode c || c.before args0 about1) = true := by decide +kernel
set_option maxRecDepth 65536 in
theorem w_t3 : ((words1.drop 24).drop 24).all (fun c => isCode c || c.before args0 about1) = true := by decide +kernel
theorem w_tables : (allAtoms (Jvm.Cond.code x code maxLocals ret :: tables_1)).before args0 about1 = true := by
  rw [allAtoms_all]
  show words1.all (fun c => c.before args0 about1) = true
  refine all_split ?_ w_codes
  rw [← List.take_append_drop 24 words1, List.all_append, w_t1, ← List.take_append_drop 24 (words1.drop 24), List.all_append, w_t2, w_t3]
  rfl
set_option maxRecDepth 65536 in
theorem w_rest : rest_1_c.before args0 about1 = true := by decide +kernel
set_option maxRecDepth 65536 in
theorem w_case : (Jvm.Cond.and given_1 narrow_1).before args0 about1 = true := by decide +kernel
set_option maxRecDepth 65536 in
theorem w_consts : constsHeld consts_1 about1 := Jvm.Lit.constsHeldB_iff.mp (by decide +kernel)
theorem w_applies : (headSpec (Jvm.Cond.code x code maxLocals ret :: tables_1) room_1).applies x e0.platform about1 = true :=
  (Spec.applies_iff w_frames).mpr ⟨w_running, w_runnable, w_alone, w_named, w_hears, w_ripe, w_room, w_tables⟩
theorem atStart : AtStart classFile x code maxLocals ret World_1 tables_1 room_1 Calls_1 rest_1 Pre_1 launch0 p0 e0 about1 theMethod args0 below0 :=
  ⟨lists_1, trivial, launch0.admits_env _ _ _, launch0.least_env, fairChoices_fair.cas, fairChoices_fair.clock, w_frames, w_args, w_heap, w_applies, ⟨w_consts, trivial⟩, w_rest, w_case⟩
end start1
theorem witness_1 : WitnessClaimed_1 := ⟨start1.p0, start1.e0, start1.about1, start1.theMethod, start1.args0, start1.below0, start1.atStart⟩
end Jvm.Pilot.@@N@@
