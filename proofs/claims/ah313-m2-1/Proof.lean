import JvmDerived
import JvmDerived.Pilot.@@N@@Statement
import JvmDerived.Pilot.@@N@@Code
set_option linter.unusedVariables false
set_option linter.unusedSimpArgs false
namespace Jvm.Pilot.@@N@@
open Jvm Jvm.ClassFile Sem Op Lib Jvm.Free Jvm.Stand Jvm.LawKit Jvm.RoadKit Bundle Jvm.Pilot.@@N@@.Jvm.D
/-! own layer: the run from a state ends in a return of which Q holds; one step leads from there to there -/
def own_iushr (x y : Int32) : Int32 := (x.toUInt32 >>> (y &&& 31).toUInt32).toInt32
def own_lshl (x : Int64) (y : Int32) : Int64 := x <<< (y &&& 0x3f).toInt64
def own_lushr (x : Int64) (y : Int32) : Int64 := (x.toUInt64 >>> (y &&& 0x3f).toInt64.toUInt64).toInt64
def own_Fin (tb : Tables) (e : Env) (below : List Frame) (s : State) (Q : Option Value → Heap → List Loc → Prop) (k n : Nat) (t : State) : Prop :=
  ∃ s₂ o, Steps tb e below t s₂ ∧ s₂.status = .running ∧ Ended s₂ below o ∧ ∃ v L, o = .returned v ∧ Q v s₂.heap L ∧ FrameEnd s o s₂ L k n
theorem own_go {tb : Tables} {e : Env} {below : List Frame} {s : State} {Q : Option Value → Heap → List Loc → Prop} {k n : Nat} {t t' : State}
    (h : ∀ target, Steps tb e below t' target → Steps tb e below t target) (q : own_Fin tb e below s Q k n t') : own_Fin tb e below s Q k n t := by
  obtain ⟨s2, o, h1, h2⟩ := q
  exact ⟨s2, o, h _ h1, h2⟩
def own_QP (r : Option Value) (h0 : Heap) (n0 : Nat) (v : Option Value) (h : Heap) (L : List Loc) : Prop := v = r ∧ Fr n0 L ∧ h = h0
section OwnA
variable {p : Program} {l : Launch} {e : Env} {R : Room} {s : State} {m : MethodId} {args : Array Value} {below : List Frame} {meth : Method} {c : Code} {T : State} {locs : List Loc} {cells slots : Nat}
theorem own_mono (X : Stand p l e R s m args below meth c T locs cells slots) {k n : Nat} (hk : cells ≤ k) (hn : slots ≤ n) : Stand p l e R s m args below meth c T locs k n :=
  { X with same := X.same.mono hk hn }
theorem own_ret (X : Stand p l e R s m args below meth c T locs cells slots) (hx : p.tables.exec = Jvm.exec) (hlk : meth.locks = false) {pc : Nat} {Ls : Array Slot} {w : Value} {t : FieldType} {i : Instr} {rest : List Value} (hret : meth.sig.returnType = some t) (hn : narrow t w = w)
    (hi : (i = .ireturn ∧ (t = .int ∨ t = .boolean ∨ t = .byte ∨ t = .char ∨ t = .short) ∧ ∃ z, w = .int z) ∨ (i = .lreturn ∧ t = .long ∧ ∃ z, w = .long z) ∨ (i = .dreturn ∧ t = .double ∧ ∃ z, w = .double z) ∨ (i = .freturn ∧ t = .float ∧ ∃ z, w = .float z) ∨ (i = .areturn ∧ t.isReference = true ∧ w.isRef = true))
    (hd : decode c.code pc = .ok (i, 1)) {Q : Option Value → Heap → List Loc → Prop} {k n : Nat} (hk : cells ≤ k) (hs : slots ≤ n) (hQ : Q (some w) T.heap locs) :
    own_Fin p.tables e below s Q k n (T.setTop (mkF m pc Ls (w :: rest))) := by
  obtain ⟨fs, hr, hrun, hended, hW, hsame⟩ := X.leave (v := some w) (fun h => by rw [hret] at h; cases h) hlk
  exact ⟨_, _, retOut X hx hret hn hi hd hr, hrun, hended, _, _, rfl, hQ, ⟨_, rfl⟩, hW, hsame.mono hk hs⟩
theorem own_retV (X : Stand p l e R s m args below meth c T locs cells slots) (hx : p.tables.exec = Jvm.exec) (hlk : meth.locks = false) {pc : Nat} {Ls : Array Slot} (hret : meth.sig.returnType = none)
    (hd : decode c.code pc = .ok (.return_, 1)) {Q : Option Value → Heap → List Loc → Prop} {k n : Nat} (hk : cells ≤ k) (hs : slots ≤ n) (hQ : Q none T.heap locs) :
    own_Fin p.tables e below s Q k n (T.setTop (mkF m pc Ls [])) := by
  obtain ⟨fs, hr, hrun, hended, hW, hsame⟩ := X.leave (v := none) (fun _ => rfl) hlk
  exact ⟨_, _, X.returnOut hx hret hd hr, hrun, hended, _, _, rfl, hQ, ⟨_, rfl⟩, hW, hsame.mono hk hs⟩
end OwnA
theorem own_irem {tb : Tables} [Ours tb] {e : Env} {below : List Frame} {T target : State} {m : MethodId} {c : Code} {g : JFrame} (h : At T m c below) (hx : tb.exec = Jvm.exec) (hg : g.method = m) {x y : Int32} {rest : List Value} (hd : decode c.code g.pc = .ok (.irem, 1)) (hs : g.stack = .int y :: .int x :: rest) (hy : y ≠ 0)
    (hr : Steps tb e below (T.setTop { g with pc := g.pc + 1, stack := .int (x % y) :: rest }) target) : Steps tb e below (T.setTop g) target :=
  XS.irem h hx hg hd hs hy (by rw [irem_eq_mod x y]; exact hr)
/-! arrays by a function of the place -/
def own_set {α : Type} (f : Nat → α) (j : Int32) (v : α) : Nat → α := fun i => if i = j.toNatClampNeg then v else f i
def own_Arf (Z : State) (h : Heap) (a : Addr) (ty : FieldType) (n : Int32) (f : Nat → Value) : Prop :=
  ∃ c : Cell, Arr Z h a c ty ∧ c.slots.size = n.toNatClampNeg ∧ ¬ n < 0 ∧ ∀ i, i < n.toNatClampNeg → c.slots[i]? = some (f i)
section OwnB
variable {Z : State} {h h' : Heap} {a b : Addr} {ty : FieldType} {n j : Int32} {f : Nat → Value} {ws : List Addr} {v : Value} {sl : Nat}
theorem own_Arf.lt (F : own_Arf Z h a ty n f) : a < h.size := by obtain ⟨c, A, -⟩ := F; exact A.lt
theorem own_Arf.ext (F : own_Arf Z h a ty n f) (E : Ext h h') : own_Arf Z h' a ty n f := by obtain ⟨c, A, r⟩ := F; exact ⟨c, A.ext E, r⟩
theorem own_Arf.other (F : own_Arf Z h b ty n f) (W : Wr h h' a sl v) (q : b ≠ a) : own_Arf Z h' b ty n f := by obtain ⟨c, A, r⟩ := F; exact ⟨c, A.other W q, r⟩
theorem own_Arf.keep (F : own_Arf Z h a ty n f) (K : Keep h h' ws) (q : a ∉ ws) : own_Arf Z h' a ty n f := by obtain ⟨c, A, r⟩ := F; exact ⟨c, ⟨K.2.1 a c A.1 q, A.2⟩, r⟩
theorem own_Arf.new {k : ClassId} (A : Arr Z h a (newA k ty n) ty) (q : ¬ n < 0) : own_Arf Z h a ty n (fun _ => defaultValue ty) :=
  ⟨_, A, sz_new _ _ _, q, fun i hi => by simp [newA, hi]⟩
theorem own_Arf.wr (F : own_Arf Z h a ty n f) (W : Wr h h' a j.toNatClampNeg v) : own_Arf Z h' a ty n (fun i => if i = j.toNatClampNeg then v else f i) := by
  obtain ⟨c, A, S, q, H⟩ := F
  refine ⟨_, A.same W, by rw [sz_set]; exact S, q, fun i hi => ?_⟩
  by_cases u : i = j.toNatClampNeg
  · subst u; simp [Cell.setSlot, S, hi]
  · simp only [if_neg u, Cell.setSlot]; rw [Array.getElem?_setIfInBounds_ne (Ne.symm u)]; exact H i hi
theorem own_Arf.fn {g : Nat → Value} (F : own_Arf Z h a ty n f) (q : ∀ i, i < n.toNatClampNeg → f i = g i) : own_Arf Z h a ty n g := by
  obtain ⟨c, A, S, q', H⟩ := F
  exact ⟨c, A, S, q', fun i hi => by rw [← q i hi]; exact H i hi⟩
variable {p : Program} {l : Launch} {e : Env} {R : Room} {s : State} {m : MethodId} {args : Array Value} {below : List Frame} {meth : Method} {c : Code} {T : State} {locs : List Loc} {cells slots : Nat} {g : JFrame} {rest : List Value}
theorem own_alen (X : Stand p l e R s m args below meth c T locs cells slots) (hx : p.tables.exec = Jvm.exec) (hZ : Z.Warmed39 s.vm) (eT : T.heap = h) (F : own_Arf Z h a ty n f) (hg : g.method = m) (hs : g.stack = .ref a :: rest) (hd : decode c.code g.pc = .ok (.arraylength, 1)) (target : State)
    (hr : Steps p.tables e below (T.setTop { g with pc := g.pc + 1, stack := .int n :: rest }) target) : Steps p.tables e below (T.setTop g) target := by
  obtain ⟨cl, A, S, q, H⟩ := F
  refine X.arraylength hx (by rw [eT]; exact A.1) (State.isArrayOf_alike hZ.alike A.2.1) hg hs hd _ ?_
  rw [len_of S q]; exact hr
theorem own_iaload (X : Stand p l e R s m args below meth c T locs cells slots) (hx : p.tables.exec = Jvm.exec) (hZ : Z.Warmed39 s.vm) (eT : T.heap = h) (F : own_Arf Z h a .int n f) (hj : ¬ j < 0 ∧ j < n) {x : Int32} (hv : f j.toNatClampNeg = .int x) (hg : g.method = m) (hs : g.stack = .int j :: .ref a :: rest) (hd : decode c.code g.pc = .ok (.iaload, 1)) (target : State)
    (hr : Steps p.tables e below (T.setTop { g with pc := g.pc + 1, stack := .int x :: rest }) target) : Steps p.tables e below (T.setTop g) target := by
  obtain ⟨cl, A, S, q, H⟩ := F
  have hin := inb_of S hj
  exact X.iaload hx (by rw [eT]; exact A.1) (State.isArrayOf_alike hZ.alike A.2.1) A.2.2 hin (by rw [H _ (by rw [← S]; omega), hv]) hg hs hd _ hr
theorem own_laload (X : Stand p l e R s m args below meth c T locs cells slots) (hx : p.tables.exec = Jvm.exec) (hZ : Z.Warmed39 s.vm) (eT : T.heap = h) (F : own_Arf Z h a .long n f) (hj : ¬ j < 0 ∧ j < n) {x : Int64} (hv : f j.toNatClampNeg = .long x) (hg : g.method = m) (hs : g.stack = .int j :: .ref a :: rest) (hd : decode c.code g.pc = .ok (.laload, 1)) (target : State)
    (hr : Steps p.tables e below (T.setTop { g with pc := g.pc + 1, stack := .long x :: rest }) target) : Steps p.tables e below (T.setTop g) target := by
  obtain ⟨cl, A, S, q, H⟩ := F
  have hin := inb_of S hj
  exact X.laload hx (by rw [eT]; exact A.1) (State.isArrayOf_alike hZ.alike A.2.1) A.2.2 hin (by rw [H _ (by rw [← S]; omega), hv]) hg hs hd _ hr
theorem own_stI (X : Stand p l e R s m args below meth c T locs cells slots) (hx : p.tables.exec = Jvm.exec) (hZ : Z.Warmed39 s.vm) (eT : T.heap = h) {q : Nat → Int32} (F : own_Arf Z h a .int n (fun i => .int (q i))) (hj : ¬ j < 0 ∧ j < n) {x : Int32} (hg : g.method = m) (hs : g.stack = .int x :: .int j :: .ref a :: rest) (hd : decode c.code g.pc = .ok (.iastore, 1)) :
    ∃ T' h', Stand p l e R s m args below meth c T' (locs ++ [⟨a, j.toNatClampNeg⟩]) cells slots ∧ T'.heap = h' ∧ Wr h h' a j.toNatClampNeg (.int x) ∧ own_Arf Z h' a .int n (fun i => .int (own_set q j x i)) ∧ ∀ target, Steps p.tables e below (T'.setTop { g with pc := g.pc + 1, stack := rest }) target → Steps p.tables e below (T.setTop g) target := by
  obtain ⟨cl, A, S, q1, H⟩ := F
  obtain ⟨T', h', X', e', W, st⟩ := stI X hx hZ eT A (inb_of S hj) hg hs hd
  refine ⟨T', h', X', e', W, (own_Arf.wr ⟨cl, A, S, q1, H⟩ W).fn fun i hi => ?_, st⟩
  simp only [own_set]; split <;> rfl
theorem own_stJ (X : Stand p l e R s m args below meth c T locs cells slots) (hx : p.tables.exec = Jvm.exec) (hZ : Z.Warmed39 s.vm) (eT : T.heap = h) {q : Nat → Int64} (F : own_Arf Z h a .long n (fun i => .long (q i))) (hj : ¬ j < 0 ∧ j < n) {x : Int64} (hg : g.method = m) (hs : g.stack = .long x :: .int j :: .ref a :: rest) (hd : decode c.code g.pc = .ok (.lastore, 1)) :
    ∃ T' h', Stand p l e R s m args below meth c T' (locs ++ [⟨a, j.toNatClampNeg⟩]) cells slots ∧ T'.heap = h' ∧ Wr h h' a j.toNatClampNeg (.long x) ∧ own_Arf Z h' a .long n (fun i => .long (own_set q j x i)) ∧ ∀ target, Steps p.tables e below (T'.setTop { g with pc := g.pc + 1, stack := rest }) target → Steps p.tables e below (T.setTop g) target := by
  obtain ⟨cl, A, S, q1, H⟩ := F
  obtain ⟨T', h', X', e', W, st⟩ := stJ X hx hZ eT A (inb_of S hj) hg hs hd
  refine ⟨T', h', X', e', W, (own_Arf.wr ⟨cl, A, S, q1, H⟩ W).fn fun i hi => ?_, st⟩
  simp only [own_set]; split <;> rfl
end OwnB
def own_QL (r : Option Value) (n0 : Nat) (v : Option Value) (h : Heap) (L : List Loc) : Prop := v = r ∧ Fr n0 L ∧ True
theorem own_ne_arf {Z : State} {h : Heap} {a b : Addr} {C : String} {ty : FieldType} {n : Int32} {f : Nat → Value} {a0 : Array Value} {k : Nat} (F : Exa Z h a C) (wi : (Cond.instantiable C k).before a0 Z = true) (G : own_Arf Z h b ty n f) : a ≠ b := by
  obtain ⟨c, A, -⟩ := G; exact ne_arr F wi A
theorem own_selpriv {s : State} {args args' : Array Value} {y z : MethodName} (hz : z.cls = y.cls) (w : (Cond.selects z.cls z z).before args' s = true) (hp : s.PrivateAt y) (hi : (Cond.instanceMethod y).before args s = true) (hy : y.cls ≠ "java/lang/invoke/MethodHandle" ∧ y.cls ≠ "java/lang/invoke/VarHandle") : (Cond.selects y.cls y y).before args s = true := by
  obtain ⟨c, r, m, h1, h2, h3, h4, k, hk, hki⟩ := Cond.selects_spec w
  have hm := findClass_of_methodNamed h3
  rw [hz] at hm
  exact selects_self_of_private hm hk hki hp hi hy
/-! own layer, wide: the walk may intern; s0 is the true start, s the base at hand -/
def own_FinW (Z : State) (EL : List (String × Nat)) (tb : Tables) (e : Env) (below : List Frame) (s0 : State) (Q : Option Value → Heap → List Loc → Prop) (k n : Nat) (t : State) : Prop :=
  ∃ s₂ o, Steps tb e below t s₂ ∧ s₂.status = .running ∧ Ended s₂ below o ∧ ∃ v L, o = .returned v ∧ Q v s₂.heap L ∧ CHr Z EL s0.vm s0.heap s₂.vm s₂.heap ∧ ReturnedEndW s0 o s₂ L k n
theorem own_goW {Z : State} {EL : List (String × Nat)} {tb : Tables} {e : Env} {below : List Frame} {s : State} {Q : Option Value → Heap → List Loc → Prop} {k n : Nat} {t t' : State}
    (h : ∀ target, Steps tb e below t' target → Steps tb e below t target) (q : own_FinW Z EL tb e below s Q k n t') : own_FinW Z EL tb e below s Q k n t := by
  obtain ⟨s2, o, h1, h2⟩ := q
  exact ⟨s2, o, h _ h1, h2⟩
def own_Wb (s0 s : State) (k : Nat) : Prop := ∃ vm, s = s0.setVm vm ∧ s0.Since vm k
theorem own_Wb.start (s0 : State) : own_Wb s0 s0 0 := ⟨s0.vm, rfl, (State.WarmedH.refl s0).since 0⟩
theorem own_chr0 {Z : State} {vm vm' : Vm} {h h' : Heap} (q : h.size ≤ h'.size) : CHr Z [] vm h vm' h' := by
  refine ⟨fun p hp => ?_, q, fun y B => ?_⟩
  · cases hp
  · obtain ⟨p, hp, -⟩ := B; cases hp
section OwnW
variable {p : Program} {l : Launch} {e : Env} {R : Room} {s : State} {m : MethodId} {args : Array Value} {below : List Frame} {meth : Method} {c : Code} {T : State} {locs : List Loc} {cells slots : Nat} {Z s0 : State} {a0 : Array Value} {h : Heap} {EL : List (String × Nat)}
theorem own_retW (X : Stand p l e R s m args below meth c T locs cells slots) (hx : p.tables.exec = Jvm.exec) (hlk : meth.locks = false) {k0 : Nat} (hS : own_Wb s0 s k0) (hk0 : k0 ≤ T.heap.size) {pc : Nat} {Ls : Array Slot} {w : Value} {t : FieldType} {i : Instr} {rest : List Value} (hret : meth.sig.returnType = some t) (hn : narrow t w = w)
    (hi : (i = .ireturn ∧ (t = .int ∨ t = .boolean ∨ t = .byte ∨ t = .char ∨ t = .short) ∧ ∃ z, w = .int z) ∨ (i = .lreturn ∧ t = .long ∧ ∃ z, w = .long z) ∨ (i = .dreturn ∧ t = .double ∧ ∃ z, w = .double z) ∨ (i = .freturn ∧ t = .float ∧ ∃ z, w = .float z) ∨ (i = .areturn ∧ t.isReference = true ∧ w.isRef = true))
    (hd : decode c.code pc = .ok (i, 1)) {Q : Option Value → Heap → List Loc → Prop} {k n : Nat} (hk : cells ≤ k) (hs : slots ≤ n) (hC : CHr Z EL s0.vm s0.heap T.vm T.heap) (hQ : Q (some w) T.heap locs) :
    own_FinW Z EL p.tables e below s0 Q k n (T.setTop (mkF m pc Ls (w :: rest))) := by
  obtain ⟨vm, rfl, hS⟩ := hS
  obtain ⟨fs, hr, hrun, hended, h1, h2, h3, h4⟩ := X.leaveW hS hk0 (v := some w) (fun h => by rw [hret] at h; cases h) hlk
  exact ⟨_, _, retOut X hx hret hn hi hd hr, hrun, hended, _, _, rfl, hQ, hC, h1, h2, h3, h4.mono hk hs⟩
/-- 'ldc' of a String constant whose text isn't looked at -/
theorem own_ldcO (X : Stand p l e R s m args below meth c T locs cells slots) (hx : p.tables.exec = Jvm.exec) (hZ : Z.Warmed39 s.vm) {own text : String} {index : Nat} (hown : s.vm.findClass own = some m.cls) (w : (Cond.stringLink own index text).before a0 Z = true) (wS : ∀ a ∈ Bundle.stringAtoms, a.before a0 Z = true)
    (eT : T.heap = h) {k0 : Nat} (hS : own_Wb s0 s k0) (hk : k0 ≤ h.size) {g : JFrame} (hg : g.method = m) (hd : decode c.code g.pc = .ok (.ldc index, 2)) {n : Nat} (hn : 4 * text.toList.length ≤ n) (hbig : n ≤ 536870912) (hc : cells + 2 ≤ R.cells) (hl : slots + (n + 4) ≤ R.slots) :
    ∃ (a : Addr) (T' : State) (h' : Heap) (k1 : Nat) (s' : State), Stand p l e R s' m args below meth c T' locs (cells + 2) (slots + (n + 4)) ∧ T'.heap = h' ∧ Ext h h' ∧ own_Wb s0 s' k1 ∧ k1 ≤ h'.size ∧ Z.Warmed39 s'.vm ∧ s'.vm.findClass own = some m.cls ∧
      ∀ target, Steps p.tables e below (T'.setTop { g with pc := g.pc + 2, stack := .ref a :: g.stack }) target → Steps p.tables e below (T.setTop g) target := by
  obtain ⟨vm, rfl, hS⟩ := hS
  obtain ⟨a, T', h', k1, r1, r2, r3, r4, r5, r6, r7, -, -, r8⟩ := ldcOH (EL := []) X hx hZ hown w wS eT hS hk EW.nil (fun p hp => by cases hp) hg hd hn hbig hc hl
  exact ⟨a, T', h', k1, _, r1, r2, r3, ⟨_, rfl, r4⟩, r5, r6, r7, r8⟩
/-- 'ldc' of a String constant that is among EL: its text is known -/
theorem own_chO (X : Stand p l e R s m args below meth c T locs cells slots) {k0 : Nat} (hS : own_Wb s0 s k0) : CHr Z [] s0.vm s0.heap T.vm T.heap := by
  obtain ⟨vm, rfl, hS⟩ := hS
  exact own_chr0 X.same.2.1
end OwnW
/-! own layer for AddressedMessages: boolean arrays, the array of outboxes, an outbox as one fact, entries that are resolved -/
section OwnC
variable {Z : State} {h h' : Heap} {a b x : Addr} {ty ty' : FieldType} {n j : Int32} {f : Nat → Value} {ws : List Addr} {v : Value} {sl : Nat}
theorem own_ne_ty {m : Int32} {g : Nat → Value} (F : own_Arf Z h a ty n f) (G : own_Arf Z h b ty' m g) (q : ty ≠ ty') : a ≠ b := fun e => by
  subst e
  obtain ⟨c1, A1, -⟩ := F
  obtain ⟨c2, A2, -⟩ := G
  cases A1.1.symm.trans A2.1
  obtain ⟨-, k1, h1, p1, e1⟩ := A1.2.1
  obtain ⟨-, k2, h2, p2, e2⟩ := A2.2.1
  cases h1.symm.trans h2
  have := e1.symm.trans e2
  injection this with _ e
  exact q e
variable {p : Program} {l : Launch} {e : Env} {R : Room} {s : State} {m : MethodId} {args : Array Value} {below : List Frame} {meth : Method} {c : Code} {T : State} {locs : List Loc} {cells slots : Nat} {g : JFrame} {rest : List Value} {a0 : Array Value}
theorem own_zaload (X : Stand p l e R s m args below meth c T locs cells slots) (hx : p.tables.exec = Jvm.exec) (hZ : Z.Warmed39 s.vm) (eT : T.heap = h) (F : own_Arf Z h a .boolean n f) (hj : ¬ j < 0 ∧ j < n) {x : Int32} (hv : f j.toNatClampNeg = .int x) (hg : g.method = m) (hs : g.stack = .int j :: .ref a :: rest) (hd : decode c.code g.pc = .ok (.baload, 1)) (target : State)
    (hr : Steps p.tables e below (T.setTop { g with pc := g.pc + 1, stack := .int x :: rest }) target) : Steps p.tables e below (T.setTop g) target := by
  obtain ⟨cl, A, S, q, H⟩ := F
  have hin := inb_of S hj
  exact X.baloadBooleans hx (by rw [eT]; exact A.1) (State.isArrayOf_alike hZ.alike A.2.1) A.2.2 hin (by rw [H _ (by rw [← S]; omega), hv]) hg hs hd _ hr
theorem own_stZ (X : Stand p l e R s m args below meth c T locs cells slots) (hx : p.tables.exec = Jvm.exec) (hZ : Z.Warmed39 s.vm) (eT : T.heap = h) {q : Nat → Int32} (F : own_Arf Z h a .boolean n (fun i => .int (q i))) (hj : ¬ j < 0 ∧ j < n) {x : Int32} (hg : g.method = m) (hs : g.stack = .int x :: .int j :: .ref a :: rest) (hd : decode c.code g.pc = .ok (.bastore, 1)) :
    ∃ T' h', Stand p l e R s m args below meth c T' (locs ++ [⟨a, j.toNatClampNeg⟩]) cells slots ∧ T'.heap = h' ∧ Wr h h' a j.toNatClampNeg (.int (nar .boolean x)) ∧ own_Arf Z h' a .boolean n (fun i => .int (own_set q j (nar .boolean x) i)) ∧ ∀ target, Steps p.tables e below (T'.setTop { g with pc := g.pc + 1, stack := rest }) target → Steps p.tables e below (T.setTop g) target := by
  obtain ⟨cl, A, S, q1, H⟩ := F
  obtain ⟨T', h', X', e', W, st⟩ := stZ X hx hZ eT A (inb_of S hj) hg hs hd
  refine ⟨T', h', X', e', W, (own_Arf.wr ⟨cl, A, S, q1, H⟩ W).fn fun i hi => ?_, st⟩
  simp only [own_set]; split <;> rfl
/-- the array of two outboxes -/
def own_Oa (Z : State) (h : Heap) (a : Addr) (C : String) (v0 v1 : Value) : Prop :=
  ∃ cl : Cell, Arr Z h a cl (.object C) ∧ Ovr Z cl.cls C ∧ cl.slots.size = 2 ∧ cl.slots[0]? = some v0 ∧ cl.slots[1]? = some v1
variable {C : String} {v0 v1 : Value}
theorem own_Oa.lt (F : own_Oa Z h a C v0 v1) : a < h.size := by obtain ⟨cl, A, -⟩ := F; exact A.lt
theorem own_Oa.ext (F : own_Oa Z h a C v0 v1) (E : Ext h h') : own_Oa Z h' a C v0 v1 := by obtain ⟨cl, A, r⟩ := F; exact ⟨cl, A.ext E, r⟩
theorem own_Oa.other (F : own_Oa Z h b C v0 v1) (W : Wr h h' a sl v) (q : b ≠ a) : own_Oa Z h' b C v0 v1 := by obtain ⟨cl, A, r⟩ := F; exact ⟨cl, A.other W q, r⟩
theorem own_Oa.keep (F : own_Oa Z h a C v0 v1) (K : Keep h h' ws) (q : a ∉ ws) : own_Oa Z h' a C v0 v1 := by obtain ⟨cl, A, r⟩ := F; exact ⟨cl, ⟨K.2.1 a cl A.1 q, A.2⟩, r⟩
theorem own_Oa.wr0 (F : own_Oa Z h a C v0 v1) (W : Wr h h' a 0 v) : own_Oa Z h' a C v v1 := by
  obtain ⟨cl, A, O, S, h0, h1⟩ := F
  exact ⟨_, A.same W, O, by simpa [Cell.setSlot] using S, by simp [Cell.setSlot, S], by simpa [Cell.setSlot] using h1⟩
theorem own_Oa.wr1 (F : own_Oa Z h a C v0 v1) (W : Wr h h' a 1 v) : own_Oa Z h' a C v0 v := by
  obtain ⟨cl, A, O, S, h0, h1⟩ := F
  exact ⟨_, A.same W, O, by simpa [Cell.setSlot] using S, by simpa [Cell.setSlot] using h0, by simp [Cell.setSlot, S]⟩
theorem own_ne_oa {k : Nat} (F : Exa Z h a C) (wi : (Cond.instantiable C k).before a0 Z = true) {C' : String} (G : own_Oa Z h b C' v0 v1) : a ≠ b := by
  obtain ⟨cl, A, -⟩ := G; exact ne_arr F wi A
theorem own_ne_oarf (F : own_Arf Z h a ty n f) (G : own_Oa Z h b C v0 v1) (q : ty ≠ .object C) : a ≠ b := fun e => by
  subst e
  obtain ⟨c1, A1, -⟩ := F
  obtain ⟨c2, A2, -⟩ := G
  cases A1.1.symm.trans A2.1
  obtain ⟨-, k1, h1, p1, e1⟩ := A1.2.1
  obtain ⟨-, k2, h2, p2, e2⟩ := A2.2.1
  cases h1.symm.trans h2
  have := e1.symm.trans e2
  injection this with _ e
  exact q e
theorem own_Oa.new {k : ClassId} (A : Arr Z h a (newA k (.object C) 2) (.object C)) (O : Ovr Z k C) : own_Oa Z h a C .null .null :=
  ⟨_, A, O, rfl, rfl, rfl⟩
theorem own_oalen (X : Stand p l e R s m args below meth c T locs cells slots) (hx : p.tables.exec = Jvm.exec) (hZ : Z.Warmed39 s.vm) (eT : T.heap = h) (F : own_Oa Z h a C v0 v1) (hg : g.method = m) (hs : g.stack = .ref a :: rest) (hd : decode c.code g.pc = .ok (.arraylength, 1)) (target : State)
    (hr : Steps p.tables e below (T.setTop { g with pc := g.pc + 1, stack := .int 2 :: rest }) target) : Steps p.tables e below (T.setTop g) target := by
  obtain ⟨cl, A, -, S, -⟩ := F
  refine X.arraylength hx (by rw [eT]; exact A.1) (State.isArrayOf_alike hZ.alike A.2.1) hg hs hd _ ?_
  rw [S]; exact hr
theorem own_oald (X : Stand p l e R s m args below meth c T locs cells slots) (hx : p.tables.exec = Jvm.exec) (hZ : Z.Warmed39 s.vm) (eT : T.heap = h) (F : own_Oa Z h a C v0 v1) (hj : (j = 0 ∧ v = v0) ∨ (j = 1 ∧ v = v1)) (hg : g.method = m) (hs : g.stack = .int j :: .ref a :: rest) (hd : decode c.code g.pc = .ok (.aaload, 1)) (target : State)
    (hr : Steps p.tables e below (T.setTop { g with pc := g.pc + 1, stack := v :: rest }) target) : Steps p.tables e below (T.setTop g) target := by
  obtain ⟨cl, A, O, S, h0, h1⟩ := F
  rcases hj with ⟨rfl, rfl⟩ | ⟨rfl, rfl⟩
  · exact X.aaload (j := 0) hx (by rw [eT]; exact A.1) (State.isArrayOf_alike hZ.alike A.2.1) rfl A.2.2 (by rw [S]; decide) h0 hg hs hd _ hr
  · exact X.aaload (j := 1) hx (by rw [eT]; exact A.1) (State.isArrayOf_alike hZ.alike A.2.1) rfl A.2.2 (by rw [S]; decide) h1 hg hs hd _ hr
theorem own_oast (X : Stand p l e R s m args below meth c T locs cells slots) (hx : p.tables.exec = Jvm.exec) (hZ : Z.Warmed39 s.vm) (eT : T.heap = h) (F : own_Oa Z h a C v0 v1) (E : Exa Z h b C) (hj : j = 0 ∨ j = 1) (hg : g.method = m) (hs : g.stack = .ref b :: .int j :: .ref a :: rest) (hd : decode c.code g.pc = .ok (.aastore, 1)) :
    ∃ T' h', Stand p l e R s m args below meth c T' (locs ++ [⟨a, j.toNatClampNeg⟩]) cells slots ∧ T'.heap = h' ∧ Wr h h' a j.toNatClampNeg (.ref b) ∧ own_Oa Z h' a C (if j = 0 then .ref b else v0) (if j = 1 then .ref b else v1) ∧ ∀ target, Steps p.tables e below (T'.setTop { g with pc := g.pc + 1, stack := rest }) target → Steps p.tables e below (T.setTop g) target := by
  obtain ⟨cl, A, O, S, h0, h1⟩ := id F
  rcases hj with rfl | rfl
  · obtain ⟨T', h', X', e', W, st⟩ := stR X hx hZ eT A (v := .ref b) (by rw [S]; decide) rfl (Sto.of A O (Ins.self E)) hg hs hd
    exact ⟨T', h', X', e', W, F.wr0 W, st⟩
  · obtain ⟨T', h', X', e', W, st⟩ := stR X hx hZ eT A (v := .ref b) (by rw [S]; decide) rfl (Sto.of A O (Ins.self E)) hg hs hd
    exact ⟨T', h', X', e', W, F.wr1 W, st⟩
end OwnC
theorem own_dupX2 {tb : Tables} [Ours tb] {e : Env} {below : List Frame} {T target : State} {m : MethodId} {c : Code} {g : JFrame} (h : At T m c below) (hx : tb.exec = Jvm.exec) (hg : g.method = m) {x y : Int32} {a : Addr} {rest : List Value} (hd : decode c.code g.pc = .ok (.dup_x2, 1)) (hs : g.stack = .int x :: .int y :: .ref a :: rest)
    (hr : Steps tb e below (T.setTop { g with pc := g.pc + 1, stack := .int x :: .int y :: .ref a :: .int x :: rest }) target) : Steps tb e below (T.setTop g) target := by
  subst hg
  jvm_step h [hx, hd, hs, dup_x2.wp_sem, Value.category]
  exact hr
section OwnD
variable {p : Program} {l : Launch} {e : Env} {R : Room} {s : State} {m : MethodId} {args : Array Value} {below : List Frame} {meth : Method} {c : Code} {T : State} {locs : List Loc} {cells slots : Nat} {Z : State} {a0 : Array Value} {h : Heap} {g : JFrame} {rest : List Value}
/-- a field through an entry that is resolved -/
theorem own_getFR (X : Stand p l e R s m args below meth c T locs cells slots) (hx : p.tables.exec = Jvm.exec) (hZ : Z.Warmed39 s.vm) {own C n d : String} {index : Nat} (hown : s.vm.findClass own = some m.cls) (w : (Cond.fieldRef own index C n d).before a0 Z = true) (eT : T.heap = h) {a : Addr} {v : Value} (F : Fld Z h a C n d v)
    (hg : g.method = m) (hs : g.stack = .ref a :: rest) (hd : decode c.code g.pc = .ok (.getfield index, 3)) (target : State) (hr : Steps p.tables e below (T.setTop { g with pc := g.pc + 3, stack := v :: rest }) target) : Steps p.tables e below (T.setTop g) target := by
  have hZT : Z.Warmed39 T.vm := wtrans hZ X.warmed
  have wT := Cond.fieldRef_warmed39 hZT w
  have hoT : T.vm.findClass own = some m.cls := by rw [X.warmed.alike.findClass]; exact hown
  obtain ⟨cf, k, i, f, hi, hready⟩ := Cond.fieldRef_spec (s := Z.setVm T.vm) hoT wT
  obtain ⟨cell, cf', k', i', f', h1, h2, h3, h4, h5, h6, h7⟩ := F
  obtain ⟨k2, q, -⟩ := State.fieldFound?_setVm (s := Z) hZT.alike h2
  cases q.symm.trans hi
  exact (X.getfieldR hx hg hready h3 hs (by rw [eT]; exact h1) h4 h7 hd (Steps.refl _)).trans hr
theorem own_putFR (X : Stand p l e R s m args below meth c T locs cells slots) (hx : p.tables.exec = Jvm.exec) (hZ : Z.Warmed39 s.vm) {own C K n d : String} {index nn : Nat} {ty : FieldType} (hown : s.vm.findClass own = some m.cls) (w : (Cond.fieldRef own index C n d).before a0 Z = true) (eT : T.heap = h) {a : Addr} {v0 v : Value} (F : Fld Z h a C n d v0) (E : Exa Z h a K) (L : (Cond.lays K C n d).before a0 Z = true) (wi : (Cond.instantiable K nn).before a0 Z = true)
    (hty : parseFieldDescriptor d = some ty) (hn : narrow ty v = v) (hf : fits ty v = true) (hg : g.method = m) (hs : g.stack = v :: .ref a :: rest) (hd : decode c.code g.pc = .ok (.putfield index, 3)) :
    ∃ T' h', Stand p l e R s m args below meth c T' (locs ++ [⟨a, Jvm.RoadKit.slotOf Z C n d⟩]) cells slots ∧ T'.heap = h' ∧ Wr h h' a (Jvm.RoadKit.slotOf Z C n d) v ∧ ∀ target, Steps p.tables e below (T'.setTop { g with pc := g.pc + 3, stack := rest }) target → Steps p.tables e below (T.setTop g) target := by
  have hZT : Z.Warmed39 T.vm := wtrans hZ X.warmed
  have wT := Cond.fieldRef_warmed39 hZT w
  have hoT : T.vm.findClass own = some m.cls := by rw [X.warmed.alike.findClass]; exact hown
  obtain ⟨cf0, k0, i0, f0, hi, hready⟩ := Cond.fieldRef_spec (s := Z.setVm T.vm) hoT wT
  obtain ⟨cell, cf, k, i, f, h1, h2, h3, h4, h5, -, h7⟩ := F
  obtain ⟨k2, q, -⟩ := State.fieldFound?_setVm (s := Z) hZT.alike h2
  have qq := q.symm.trans hi
  simp only [Option.some.injEq, Prod.mk.injEq] at qq
  obtain ⟨e1q, -, -, e2q⟩ := qq
  rw [← e1q, ← e2q] at hready
  obtain ⟨cell', kc, e1, e2, e3, -⟩ := E
  cases h1.symm.trans e1
  obtain ⟨c1, k1, cf1, kf1, i1, f1, a1, a2, a3, -, a5, a6, a7, -⟩ := Cond.lays_spec L
  cases h2.symm.trans a3
  cases e2.symm.trans a1
  obtain ⟨c2, k3, j1, j2, j3, -⟩ := Cond.instantiable_spec wi
  cases e2.symm.trans j1
  cases a2.symm.trans j2
  have ht := (State.fieldFound?_type h2 hty).2
  have hfit : Z.fitsSlot cell.cls cell.vm f.slot v = true := by
    have q : Z.slotType? cell.cls cell.vm f.slot = some ty := by
      simp only [State.slotType?, a2, Option.bind_eq_bind, Option.bind_some, j3]
      cases hq : cell.vm <;> first | (rw [hq] at h5; exact Bool.noConfusion h5) | (rw [a7, ht])
    simp [State.fitsSlot, q, hf]
  have hfit' : T.fitsSlot cell.cls cell.vm f.slot v = true := by rw [← State.fitsSlot_setVm hZT.alike] at hfit; exact hfit
  have hlt := (Array.getElem?_eq_some_iff.mp h7).1
  have es : Jvm.RoadKit.slotOf Z C n d = f.slot := by simp [Jvm.RoadKit.slotOf, h2]
  rw [es]
  obtain ⟨X', st⟩ := X.putfieldReady hx hready h3 (Or.inl a5) (by rw [eT]; exact h1) h4 hlt (by rw [ht]; exact hn) hfit' hg hs hd
  exact ⟨_, _, X', rfl, ⟨cell, h1, h5, hlt, by rw [← eT]; rfl⟩, st⟩
/-- a constructor through an entry that is resolved -/
theorem own_specR (X : Stand p l e R s m args below meth c T locs cells slots) (hx : p.tables.exec = Jvm.exec) (hZ : Z.Warmed39 s.vm) {own : String} {index : Nat} {y : MethodName} (hy1 : y.name = "<init>") (hown : s.vm.findClass own = some m.cls) (w : (Cond.methodRef own index y).before a0 Z = true) (hinst : (Cond.instanceMethod y).before a0 Z = true)
    {bytes : ByteArray} {maxL : Nat} (hcode : (Cond.code y bytes maxL none).before a0 Z = true) (hy : y.cls ≠ "java/lang/invoke/MethodHandle" ∧ y.cls ≠ "java/lang/invoke/VarHandle")
    {W : Nat} {Pre : Pt → Array Value → Prop} {Post : Pt → Array Value → Option Value → Pt → Prop} (hK : Back l R p e below s args y 3 W Pre Post)
    {g : JFrame} (hg : g.method = m) (hsize : g.locals.size = c.maxLocals) {a : Addr} {argsL rest : List Value}
    (hlen : ∀ sig, parseMethodDescriptor y.desc = some sig → argsL.length = sig.parameters.length) (hstack : g.stack = argsL.reverse ++ .ref a :: rest) (hW : 2 * g.monitorRoom + (rest.map fun v => v.category).sum ≤ W)
    (hdg : decode c.code g.pc = .ok (.invokespecial index, 3)) (hpre : ∀ vm₁, s.WarmedH vm₁ → Pre ⟨T.setVm vm₁, locs, cells, slots⟩ (.ref a :: argsL).toArray) :
    ∃ (v : Option Value) (vm₁ : Vm) (B : Pt), s.WarmedH vm₁ ∧ Stand p l e R s m args below meth c B.U B.locs B.cells B.slots ∧ Post ⟨T.setVm vm₁, locs, cells, slots⟩ (.ref a :: argsL).toArray v B ∧
      Steps p.tables e below (T.setTop g) (B.U.setTop { g with pc := g.pc + 3, stack := v.toList ++ rest }) := by
  have hZT : Z.Warmed39 T.vm := wtrans hZ X.warmed
  have wT : (Cond.methodRef own index y).before args T = true := by
    obtain ⟨_, _, hnZ, _⟩ := Cond.instanceMethod_spec hinst
    have q := Cond.methodRef_warmed39 hZT hnZ hy w
    exact q
  have iT : (Cond.instanceMethod y).before args T = true := mv hZT hinst
  have cT : (Cond.code y bytes maxL none).before args T = true := mv hZT hcode
  have hoT : T.vm.findClass own = some m.cls := by rw [X.warmed.alike.findClass]; exact hown
  subst hg
  obtain ⟨mo, methO, hnO, hmO, hstO, habO⟩ := Cond.instanceMethod_spec iT
  obtain ⟨methO', cO, hmO', hcO, hbO, hlO, -, hlockO, -, hsigO⟩ := Cond.code_spec hnO cT
  cases hmO.symm.trans hmO'
  obtain ⟨kO, hkO, hnameO⟩ := className_of_methodNamed hnO
  obtain ⟨hnameMO, hdescO⟩ := name_of_methodNamed hnO hmO
  obtain ⟨m', c', ci, b, hfd, hready, hfc, hask, hcr⟩ := Cond.methodRef_spec (e := e) hoT wT
  have hmm : m' = mo := by
    have q := State.methodFound?_of_named hnO hy
    exact Option.some.inj (hfd.symm.trans q)
  subst hmm
  have hcc : c' = m'.cls := Option.some.inj (hfc.symm.trans (findClass_of_methodNamed hnO))
  subst hcc
  obtain ⟨dk, cf, nt, hdk, hcf, hcp⟩ : ∃ (dk : Class) (cf : ClassFile) (nt : Nat), T.vm.classes[g.method.cls]? = some dk ∧ dk.cf = some cf ∧ (cf.constantPool[index]? = some (.methodref ci nt) ∨ cf.constantPool[index]? = some (.interfaceMethodref ci nt)) := by
    have h := wT
    simp only [Cond.before, Cond.holds, Cond.value, hoT, hfd, beq_iff_eq, Option.some.injEq, Bool.and_eq_true, decide_eq_true_eq] at h
    obtain ⟨⟨hnames, hcls⟩, hres⟩ := h
    obtain ⟨cp, hcp, hn⟩ := State.names_spec hnames
    obtain ⟨ci2, nt, hentry, hnt, -⟩ := namesOf?_method hn
    obtain ⟨k, cf, hk, hcf, rfl⟩ := State.poolOf?_spec hoT hcp
    obtain ⟨b2, hask2⟩ := memberRef_ask' (e := e) hk hcf hentry hnt
    have q := hask.symm.trans hask2
    have q2 : ci = ci2 := by
      injection q with q
      exact congrArg Prod.fst q
    subst q2
    exact ⟨k, cf, nt, hk, hcf, hentry⟩
  have hfound : lookupSpecial T.vm m'.cls "<init>" methO.desc = .method m' := by
    rw [hdescO, ← hy1]; exact lookupSpecial_of_named hnO hmO hstO
  have X₁ : Stand p l e R s g.method args below meth c (T.setVm T.vm) locs cells slots := X
  obtain ⟨v, B, X', hpost, hsteps⟩ := hK g.method meth c ⟨T.setVm T.vm, locs, cells, slots⟩ { g with stack := rest } (.invokespecial index) m' (.ref a :: argsL).toArray X₁ rfl hsize hdg hW hnO (hpre T.vm X.warmed)
  refine ⟨v, T.vm, B, X.warmed, X', hpost, ?_⟩
  have st : ∀ target, (∀ acts, Steps p.tables e below (doInvoke e (T.setTop { g with stack := rest }) acts m' (.ref a :: argsL).toArray).1 target) → Steps p.tables e below (T.setTop g) target := fun target hrest => by
    jvm_step X.here [hx, hdg, invokespecial.wp_init (e := e) (s := T) (k := kO) (meth := methO) (m := m') (a := a) (args := argsL) (rest := rest) (f := g)
      X.here.top ⟨dk, cf, ci, nt, hdk, hcf, hcp, hcr⟩ hready hkO hmO (by rw [hnameMO]; exact hy1) hstO habO hfound (hlen _ hsigO) hstack]
    exact hrest
  exact (st _ fun acts => by rw [doInvoke_state]; exact Steps.refl _).trans hsteps
end OwnD

/-! an outbox as one fact: L the receivers of its messages, D its cells -/
abbrev own_OB : String := "com/example/lockstep/lockstep/engine/AddressedMessages$Outbox"
def own_Bx (Z : State) (h : Heap) (n0 : Nat) (a b1 b2 b3 : Addr) (z : Int32) (q1 g : Nat → Int32) (q3 : Nat → Int64) : Prop :=
  (n0 ≤ a ∧ n0 ≤ b1 ∧ n0 ≤ b2 ∧ n0 ≤ b3 ∧ b1 ≠ b2) ∧ Exa Z h a own_OB ∧ Fld Z h a own_OB "size" "I" (.int z) ∧ Fld Z h a own_OB "senders" "[I" (.ref b1) ∧ Fld Z h a own_OB "receivers" "[I" (.ref b2) ∧ Fld Z h a own_OB "messages" "[J" (.ref b3) ∧
    own_Arf Z h b1 .int 16 (fun i => .int (q1 i)) ∧ own_Arf Z h b2 .int 16 (fun i => .int (g i)) ∧ own_Arf Z h b3 .long 16 (fun i => .long (q3 i))
def own_Box (Z : State) (h : Heap) (n0 : Nat) (v : Value) (D : List Addr) (L : List Int32) : Prop :=
  L.length ≤ 4 ∧ ((v = .null ∧ D = [] ∧ L = []) ∨ ∃ (a b1 b2 b3 : Addr) (q1 g : Nat → Int32) (q3 : Nat → Int64), v = .ref a ∧ D = [a, b1, b2, b3] ∧ own_Bx Z h n0 a b1 b2 b3 (Int32.ofNat L.length) q1 g q3 ∧ ∀ i, i < L.length → g i = L.getD i 0)
section OwnE
variable {Z : State} {h h' : Heap} {n0 : Nat} {a b1 b2 b3 x : Addr} {z : Int32} {q1 g : Nat → Int32} {q3 : Nat → Int64} {v w : Value} {D ws : List Addr} {L : List Int32} {sl : Nat}
theorem own_Bx.ext (F : own_Bx Z h n0 a b1 b2 b3 z q1 g q3) (E : Ext h h') : own_Bx Z h' n0 a b1 b2 b3 z q1 g q3 := by
  obtain ⟨f0, f1, f2, f3, f4, f5, f6, f7, f8⟩ := F
  exact ⟨f0, f1.ext E, f2.ext E, f3.ext E, f4.ext E, f5.ext E, f6.ext E, f7.ext E, f8.ext E⟩
theorem own_Bx.other (F : own_Bx Z h n0 a b1 b2 b3 z q1 g q3) (W : Wr h h' x sl w) (q : x ∉ [a, b1, b2, b3]) : own_Bx Z h' n0 a b1 b2 b3 z q1 g q3 := by
  obtain ⟨f0, f1, f2, f3, f4, f5, f6, f7, f8⟩ := F
  simp only [List.mem_cons, List.not_mem_nil, or_false, not_or] at q
  obtain ⟨n1, n2, n3, n4⟩ := q
  exact ⟨f0, f1.wr W, f2.other W (Or.inl (Ne.symm n1)), f3.other W (Or.inl (Ne.symm n1)), f4.other W (Or.inl (Ne.symm n1)), f5.other W (Or.inl (Ne.symm n1)), f6.other W (Ne.symm n2), f7.other W (Ne.symm n3), f8.other W (Ne.symm n4)⟩
theorem own_Bx.keep (F : own_Bx Z h n0 a b1 b2 b3 z q1 g q3) (K : Keep h h' ws) (q : ∀ y ∈ ws, y ∉ [a, b1, b2, b3]) : own_Bx Z h' n0 a b1 b2 b3 z q1 g q3 := by
  obtain ⟨f0, f1, f2, f3, f4, f5, f6, f7, f8⟩ := F
  have n : ∀ y, y ∈ [a, b1, b2, b3] → y ∉ ws := fun y hy hw => q y hw hy
  exact ⟨f0, f1.keep K, f2.keep K (n _ (by simp)), f3.keep K (n _ (by simp)), f4.keep K (n _ (by simp)), f5.keep K (n _ (by simp)), f6.keep K (n _ (by simp)), f7.keep K (n _ (by simp)), f8.keep K (n _ (by simp))⟩
theorem own_Bx.lt (F : own_Bx Z h n0 a b1 b2 b3 z q1 g q3) : ∀ y ∈ [a, b1, b2, b3], y < h.size := by
  obtain ⟨f0, f1, f2, f3, f4, f5, f6, f7, f8⟩ := F
  intro y hy
  simp only [List.mem_cons, List.not_mem_nil, or_false] at hy
  rcases hy with rfl | rfl | rfl | rfl
  · exact f1.lt
  · exact f6.lt
  · exact f7.lt
  · exact f8.lt
theorem own_Box.ext (F : own_Box Z h n0 v D L) (E : Ext h h') : own_Box Z h' n0 v D L := by
  obtain ⟨l, F | ⟨a, b1, b2, b3, q1, g, q3, e1, e2, B, e3⟩⟩ := F
  · exact ⟨l, Or.inl F⟩
  · exact ⟨l, Or.inr ⟨a, b1, b2, b3, q1, g, q3, e1, e2, B.ext E, e3⟩⟩
theorem own_Box.other (F : own_Box Z h n0 v D L) (W : Wr h h' x sl w) (q : x ∉ D) : own_Box Z h' n0 v D L := by
  obtain ⟨l, F | ⟨a, b1, b2, b3, q1, g, q3, e1, e2, B, e3⟩⟩ := F
  · exact ⟨l, Or.inl F⟩
  · exact ⟨l, Or.inr ⟨a, b1, b2, b3, q1, g, q3, e1, e2, B.other W (e2 ▸ q), e3⟩⟩
theorem own_Box.keep (F : own_Box Z h n0 v D L) (K : Keep h h' ws) (q : ∀ y ∈ ws, y ∉ D) : own_Box Z h' n0 v D L := by
  obtain ⟨l, F | ⟨a, b1, b2, b3, q1, g, q3, e1, e2, B, e3⟩⟩ := F
  · exact ⟨l, Or.inl F⟩
  · exact ⟨l, Or.inr ⟨a, b1, b2, b3, q1, g, q3, e1, e2, B.keep K (e2 ▸ q), e3⟩⟩
theorem own_Box.lt (F : own_Box Z h n0 v D L) : ∀ y ∈ D, y < h.size := by
  obtain ⟨l, ⟨-, e, -⟩ | ⟨a, b1, b2, b3, q1, g, q3, e1, e2, B, e3⟩⟩ := F
  · rw [e]; intro y hy; cases hy
  · rw [e2]; exact B.lt
theorem own_Box.nin (F : own_Box Z h n0 v D L) (q : h.size ≤ x) : x ∉ D := fun y => absurd (F.lt _ y) (Nat.not_lt.mpr q)
theorem own_nx {y : Addr} (q : x ∉ D) {i : Nat} (e : D[i]? = some y) : x ≠ y := fun z => q (z ▸ List.mem_of_getElem? e)
end OwnE
def own_psh (b j : Int32) (L : List Int32) (r : Int32) : List Int32 := if b = j then L ++ [r] else L
section OwnF
variable {Z : State} {h : Heap} {n0 : Nat} {a b1 b2 b3 : Addr} {z : Int32} {q1 g : Nat → Int32} {q3 : Nat → Int64} {v : Value} {D : List Addr} {L : List Int32}
theorem own_szp (L : List Int32) (r : Int32) : Int32.ofNat L.length + 1 = Int32.ofNat (L ++ [r]).length := by
  rw [List.length_append]; simp [Int32.ofNat_add]
theorem own_gps {L : List Int32} {g : Nat → Int32} (hl : L.length ≤ 3) (hg : ∀ i, i < L.length → g i = L.getD i 0) (r : Int32) : ∀ i, i < (L ++ [r]).length → own_set g (Int32.ofNat L.length) r i = (L ++ [r]).getD i 0 := by
  intro i hi
  have e : (Int32.ofNat L.length).toNatClampNeg = L.length := by
    generalize L.length = n at hl
    match n, hl with
    | 0, _ => rfl
    | 1, _ => rfl
    | 2, _ => rfl
    | 3, _ => rfl
  simp only [own_set, e]
  rw [List.length_append] at hi
  by_cases q : i = L.length
  · subst q; rw [if_pos rfl]; simp [List.getD]
  · rw [if_neg q]
    have hi' : i < L.length := by simp at hi; omega
    rw [hg i hi']; simp [List.getD, List.getElem?_append_left hi']
theorem own_szz {L : List Int32} (hl : L.length ≤ 3) : ¬ Int32.ofNat L.length < 0 ∧ Int32.ofNat L.length < (16 : Int32) := by
  generalize L.length = n at hl
  match n, hl with
  | 0, _ => decide
  | 1, _ => decide
  | 2, _ => decide
  | 3, _ => decide
theorem own_Box.mk (hl : L.length ≤ 4) (hz : z = Int32.ofNat L.length) (hg : ∀ i, i < L.length → g i = L.getD i 0) (g1 : n0 ≤ a) (g2 : n0 ≤ b1) (g3 : n0 ≤ b2) (g4 : n0 ≤ b3) (ne : b1 ≠ b2) (E : Exa Z h a own_OB) (f1 : Fld Z h a own_OB "size" "I" (.int z)) (f2 : Fld Z h a own_OB "senders" "[I" (.ref b1)) (f3 : Fld Z h a own_OB "receivers" "[I" (.ref b2)) (f4 : Fld Z h a own_OB "messages" "[J" (.ref b3))
    (a1 : own_Arf Z h b1 .int 16 (fun i => .int (q1 i))) (a2 : own_Arf Z h b2 .int 16 (fun i => .int (g i))) (a3 : own_Arf Z h b3 .long 16 (fun i => .long (q3 i))) : own_Box Z h n0 (.ref a) [a, b1, b2, b3] L :=
  ⟨hl, Or.inr ⟨a, b1, b2, b3, q1, g, q3, rfl, rfl, ⟨⟨g1, g2, g3, g4, ne⟩, E, hz ▸ f1, f2, f3, f4, a1, a2, a3⟩, hg⟩⟩
end OwnF
theorem own_gp0 (r : Int32) : ∀ i, i < ([] ++ [r] : List Int32).length → own_set (fun _ => (0 : Int32)) (0 : Int32) r i = ([] ++ [r] : List Int32).getD i 0 := fun i hi => by
  have : i = 0 := by simp at hi; omega
  subst this; rfl
theorem own_all4 {P : Addr → Prop} {a b c d : Addr} (ha : P a) (hb : P b) (hc : P c) (hd : P d) : ∀ x ∈ [a, b, c, d], P x := fun x hx => by
  simp only [List.mem_cons, List.not_mem_nil, or_false] at hx
  rcases hx with rfl | rfl | rfl | rfl
  · exact ha
  · exact hb
  · exact hc
  · exact hd
theorem own_nk {a ob : Addr} {D0 D1 : List Addr} (h : a ≠ ob) (h0 : a ∉ D0) (h1 : a ∉ D1) : a ∉ ob :: (D0 ++ D1) := fun q => by
  rcases List.mem_cons.mp q with q | q
  · exact h q
  · exact (List.mem_append.mp q).elim h0 h1
theorem own_nbC {a : Addr} {D C : List Addr} {k : Nat} (h : a ∉ D) (hlt : a < k) (q : ∀ x ∈ C, x ∈ D ∨ k ≤ x) : a ∉ C := fun z => (q a z).elim h fun w => absurd hlt (Nat.not_lt.mpr w)
theorem own_vr {tb : Tables} {e : Env} {below : List Frame} {s : State} {Q : Option Value → Heap → List Loc → Prop} {k n : Nat} {T : State} {m : MethodId} {pc : Nat} {L : Array Slot} {v v' : Value} {S : List Value} (h : v = v') (q : own_Fin tb e below s Q k n (T.setTop (mkF m pc L (v' :: S)))) : own_Fin tb e below s Q k n (T.setTop (mkF m pc L (v :: S))) := by
  rw [h]; exact q

/-! a condition's value: branch, 1, goto, 0 in one step -/
theorem own_yT {C : Prop} [Decidable C] {B : Bool} (h1 : C → B = false) (h2 : ¬ C → B = true) : (if C then (1 : Int32) else 0) = if B = true then 0 else 1 := by
  by_cases h : C
  · rw [if_pos h, h1 h]; rfl
  · rw [if_neg h, h2 h]; rfl
theorem own_yF {C : Prop} [Decidable C] {B : Bool} (h1 : C → B = true) (h2 : ¬ C → B = false) : (if C then (0 : Int32) else 1) = if B = true then 0 else 1 := by
  by_cases h : C
  · rw [if_pos h, h1 h]; rfl
  · rw [if_neg h, h2 h]; rfl
section OwnQ
variable {tb : Tables} [Ours tb] {e : Env} {below : List Frame} {T target : State} {m : MethodId} {c : Code} {g : JFrame} {cd : ClassFile.Cond} {x z y : Int32} {rest : List Value} {pc0 pc' : Nat}
theorem own_bi (h : At T m c below) (hx : tb.exec = Jvm.exec) (hg : g.method = m) (hpc : g.pc = pc0) (hd : decode c.code g.pc = .ok (.ifCond cd 7, 3)) (h1 : decode c.code (g.pc + 3) = .ok (.iconst 1, 1)) (h2 : decode c.code (g.pc + 4) = .ok (.goto 4, 3)) (h3 : decode c.code (g.pc + 7) = .ok (.iconst 0, 1)) (hs : g.stack = .int x :: rest)
    (hy : y = if ifCond.holds cd x = true then 0 else 1) (hp : pc0 + 8 = pc') (hr : Steps tb e below (T.setTop { g with pc := pc', stack := .int y :: rest }) target) : Steps tb e below (T.setTop g) target := by
  subst hpc hp; rw [hy] at hr
  cases hb : ifCond.holds cd x
  · rw [hb] at hr
    exact XS.ifNo h hx hg hd hs hb (XS.iconst h hx hg h1 (XS.goto h hx hg (pc0 := g.pc + 4) rfl h2 (by omega) (by omega) hr))
  · rw [hb] at hr
    exact XS.ifYes h hx hg (pc0 := g.pc) (pc' := g.pc + 7) rfl hd hs hb (by omega) (by omega) (XS.iconst h hx hg h3 hr)
theorem own_bc (h : At T m c below) (hx : tb.exec = Jvm.exec) (hg : g.method = m) (hpc : g.pc = pc0) (hd : decode c.code g.pc = .ok (.if_icmp cd 7, 3)) (h1 : decode c.code (g.pc + 3) = .ok (.iconst 1, 1)) (h2 : decode c.code (g.pc + 4) = .ok (.goto 4, 3)) (h3 : decode c.code (g.pc + 7) = .ok (.iconst 0, 1)) (hs : g.stack = .int z :: .int x :: rest)
    (hy : y = if if_icmp.holds cd x z = true then 0 else 1) (hp : pc0 + 8 = pc') (hr : Steps tb e below (T.setTop { g with pc := pc', stack := .int y :: rest }) target) : Steps tb e below (T.setTop g) target := by
  subst hpc hp; rw [hy] at hr
  cases hb : if_icmp.holds cd x z
  · rw [hb] at hr
    exact XS.icmpNo h hx hg hd hs hb (XS.iconst h hx hg h1 (XS.goto h hx hg (pc0 := g.pc + 4) rfl h2 (by omega) (by omega) hr))
  · rw [hb] at hr
    exact XS.icmpYes h hx hg (pc0 := g.pc) (pc' := g.pc + 7) rfl hd hs hb (by omega) (by omega) (XS.iconst h hx hg h3 hr)
end OwnQ
theorem own_nar1 {a y z : Int32} (h : ((a &&& 1) &&& y) = z) : narrow .boolean (.int z) = .int z := by
  subst h
  apply congrArg Value.int
  apply Int32.toBitVec_inj.mp
  show (a.toBitVec &&& 1#32 &&& y.toBitVec) &&& 1#32 = a.toBitVec &&& 1#32 &&& y.toBitVec
  apply BitVec.eq_of_getLsbD_eq; intro i hi
  simp only [BitVec.getLsbD_and]
  cases a.toBitVec.getLsbD i <;> cases (1#32).getLsbD i <;> cases y.toBitVec.getLsbD i <;> rfl

/-! counts in a list of receivers -/
def own_cp (p : Int32 → Bool) (M : List Int32) : Nat := (M.filter p).length
def own_ct (M : List Int32) (j : Nat) : Nat := own_cp (fun r => decide (r.toNatClampNeg = j)) M
def own_bl (M : List Int32) (j : Nat) : Nat := own_cp (fun r => decide (r.toNatClampNeg < j)) M
theorem own_cpc (p : Int32 → Bool) (x : Int32) (xs : List Int32) : own_cp p (x :: xs) = (if p x then 1 else 0) + own_cp p xs := by
  unfold own_cp
  cases h : p x <;> simp [List.filter_cons, h]
  omega
theorem own_cpa (p : Int32 → Bool) (A B : List Int32) : own_cp p (A ++ B) = own_cp p A + own_cp p B := by unfold own_cp; rw [List.filter_append, List.length_append]
theorem own_cpl (p : Int32 → Bool) (M : List Int32) : own_cp p M ≤ M.length := List.length_filter_le _ _
theorem own_bl0 (M : List Int32) : own_bl M 0 = 0 := by
  induction M with
  | nil => rfl
  | cons x xs ih => unfold own_bl at *; rw [own_cpc, ih]; simp
theorem own_bls (M : List Int32) (c : Nat) : own_bl M (c + 1) = own_bl M c + own_ct M c := by
  induction M with
  | nil => rfl
  | cons x xs ih =>
    unfold own_bl own_ct at *
    rw [own_cpc, own_cpc, own_cpc, ih]
    by_cases h1 : x.toNatClampNeg < c
    · have h2 : ¬ x.toNatClampNeg = c := by omega
      have h3 : x.toNatClampNeg < c + 1 := by omega
      simp [h1, h2, h3]; omega
    · by_cases h2 : x.toNatClampNeg = c
      · simp [h2]; omega
      · have h3 : ¬ x.toNatClampNeg < c + 1 := by omega
        simp [h1, h2, h3]
theorem own_blg {M : List Int32} {a b : Nat} (h : a ≤ b) (hz : ∀ x, a ≤ x → x < b → own_ct M x = 0) : own_bl M b = own_bl M a := by
  obtain ⟨k, rfl⟩ : ∃ k, b = a + k := ⟨b - a, by omega⟩
  clear h
  induction k with
  | zero => rfl
  | succ k ih =>
    show own_bl M (a + k + 1) = _
    rw [own_bls, hz (a + k) (by omega) (by omega), Nat.add_zero]
    exact ih fun x h1 h2 => hz x h1 (by omega)
theorem own_ctm {M : List Int32} {x : Nat} : own_ct M x ≠ 0 ↔ ∃ r ∈ M, r.toNatClampNeg = x := by
  induction M with
  | nil => simp [own_ct, own_cp]
  | cons y ys ih =>
    unfold own_ct at *
    rw [own_cpc]
    by_cases h : y.toNatClampNeg = x
    · simp [h]
    · simp only [h, decide_false, Bool.false_eq_true, if_false, Nat.zero_add]
      rw [ih]; simp [h]
theorem own_cta (A B : List Int32) (x : Nat) : own_ct (A ++ B) x = own_ct A x + own_ct B x := own_cpa _ A B
theorem own_ct1 (r : Int32) (x : Nat) : own_ct [r] x = if r.toNatClampNeg = x then 1 else 0 := by
  unfold own_ct; rw [own_cpc]; simp [own_cp]
theorem own_ctb (M : List Int32) (x : Nat) : own_bl M x + own_ct M x ≤ M.length := by rw [← own_bls]; exact own_cpl _ _
/-! small ints -/
theorem own_no {k : Nat} (h : k < 2147483648) : (Int32.ofNat k).toInt = k ∧ (Int32.ofNat k).toNatClampNeg = k ∧ ¬ Int32.ofNat k < 0 := by
  have e : (Int32.ofNat k).toInt = k := Int32.toInt_ofNat_of_lt (by omega)
  refine ⟨e, by simp only [Int32.toNatClampNeg, e]; omega, ?_⟩
  rw [Int32.lt_iff_toInt_lt, e, show (0 : Int32).toInt = 0 from by decide]; omega
theorem own_on {r : Int32} (h : ¬ r < 0) : r = Int32.ofNat r.toNatClampNeg ∧ r.toInt = r.toNatClampNeg ∧ r.toNatClampNeg < 2147483648 := by
  rw [Int32.lt_iff_toInt_lt, show (0 : Int32).toInt = 0 from by decide] at h
  have q := rng32 r
  have e : r.toInt = r.toNatClampNeg := by simp only [Int32.toNatClampNeg]; omega
  have e2 : r.toNatClampNeg < 2147483648 := by omega
  exact ⟨Int32.toInt_inj.mp (by rw [(own_no e2).1, e]), e, e2⟩
theorem own_ofl {a b : Nat} (ha : a < 2147483648) (hb : b < 2147483648) : (Int32.ofNat a < Int32.ofNat b ↔ a < b) ∧ (Int32.ofNat a = Int32.ofNat b ↔ a = b) := by
  refine ⟨by rw [Int32.lt_iff_toInt_lt, (own_no ha).1, (own_no hb).1]; omega, fun e => ?_, fun e => by rw [e]⟩
  have := congrArg Int32.toNatClampNeg e
  rwa [(own_no ha).2.1, (own_no hb).2.1] at this
theorem own_odv {a d : Nat} (ha : a < 2147483648) (hd : 0 < d) (hd2 : d < 2147483648) : Int32.ofNat a / Int32.ofNat d = Int32.ofNat (a / d) := by
  apply Int32.toInt_inj.mp
  have h0 : Int32.ofNat d ≠ 0 := fun q => by have := congrArg Int32.toInt q; rw [(own_no hd2).1] at this; simp at this; omega
  have h1 : Int32.ofNat d ≠ -1 := fun q => by have := congrArg Int32.toInt q; rw [(own_no hd2).1] at this; have e : (-1 : Int32).toInt = -1 := by decide
                                              omega
  have hq : a / d < 2147483648 := Nat.lt_of_le_of_lt (Nat.div_le_self _ _) ha
  rw [Int32.toInt_div_of_ne_right _ _ h1, (own_no ha).1, (own_no hd2).1, (own_no hq).1]
  rw [Int.tdiv_eq_ediv_of_nonneg (by omega)]; simp
theorem own_oad (a b : Nat) : Int32.ofNat a + Int32.ofNat b = Int32.ofNat (a + b) := (Int32.ofNat_add ..).symm
theorem own_oml (a b : Nat) : Int32.ofNat a * Int32.ofNat b = Int32.ofNat (a * b) := (Int32.ofNat_mul ..).symm
def own_in (r n : Int32) : Prop := ¬ r < 0 ∧ r < n
/-- n receivers in nb blocks -/
def own_nn (n nb : Int32) : Prop := ∃ a m : Nat, n = Int32.ofNat a ∧ nb = Int32.ofNat m ∧ 1 ≤ a ∧ a ≤ 1024 * m ∧ 1 ≤ m ∧ m ≤ 3 ∧ 1024 * (m - 1) < a
theorem own_inN {r n nb : Int32} (hn : own_nn n nb) (h : own_in r n) : r = Int32.ofNat r.toNatClampNeg ∧ r.toNatClampNeg < n.toNatClampNeg ∧ r.toNatClampNeg < 3072 ∧ r.toNatClampNeg / 1024 < nb.toNatClampNeg ∧ r.toNatClampNeg / 64 < nb.toNatClampNeg * 16 := by
  obtain ⟨a, m, rfl, rfl, h1, h2, h3, h4, h5⟩ := hn
  obtain ⟨g1, g2⟩ := h
  obtain ⟨e1, e2, e3⟩ := own_on g1
  have q : r.toNatClampNeg < a := by
    rw [e1] at g2; exact (own_ofl e3 (by omega)).1.mp g2
  rw [(own_no (k := a) (by omega)).2.1, (own_no (k := m) (by omega)).2.1]
  exact ⟨e1, q, by omega, by omega, by omega⟩
theorem own_d64 {r n nb : Int32} (hn : own_nn n nb) (h : own_in r n) : r / 64 = Int32.ofNat (r.toNatClampNeg / 64) ∧ (¬ r / 64 < 0 ∧ r / 64 < nb * 16) ∧ r / 1024 = Int32.ofNat (r.toNatClampNeg / 1024) ∧ (¬ r / 1024 < 0 ∧ r / 1024 < nb) := by
  obtain ⟨e1, q1, q2, q3, q4⟩ := own_inN hn h
  obtain ⟨a, m, rfl, rfl, h1, h2, h3, h4, h5⟩ := hn
  rw [(own_no (k := m) (by omega)).2.1] at q3 q4
  have f1 : r / 64 = Int32.ofNat (r.toNatClampNeg / 64) := by
    conv => lhs; rw [e1]
    exact own_odv (d := 64) (by omega) (by decide) (by decide)
  have f2 : r / 1024 = Int32.ofNat (r.toNatClampNeg / 1024) := by
    conv => lhs; rw [e1]
    exact own_odv (d := 1024) (by omega) (by decide) (by decide)
  refine ⟨f1, ?_, f2, ?_⟩
  · rw [f1, show Int32.ofNat m * 16 = Int32.ofNat (m * 16) from own_oml m 16]
    exact ⟨(own_no (by omega)).2.2, (own_ofl (by omega) (by omega)).1.mpr (by omega)⟩
  · rw [f2]
    exact ⟨(own_no (by omega)).2.2, (own_ofl (by omega) (by omega)).1.mpr (by omega)⟩

/-! bits -/
theorem own_lshl_bv (x : Int64) (y : Int32) (k : Nat) (hk : y.toBitVec.toNat % 64 = k) : (own_lshl x y).toBitVec = x.toBitVec <<< k := by
  show x.toBitVec <<< ((y &&& 0x3f).toInt64.toBitVec.smod 64) = _
  rw [BitVec.shiftLeft_eq', (sm64 y k hk).1, smod64 k (sm64 y k hk).2]
theorem own_lushr_bv (x : Int64) (y : Int32) (k : Nat) (hk : y.toBitVec.toNat % 64 = k) : (own_lushr x y).toBitVec = x.toBitVec >>> k := by
  show x.toBitVec >>> ((y &&& 0x3f).toInt64.toBitVec % 64) = _
  have h5 := (sm64 y k hk).2
  rw [BitVec.ushiftRight_eq', BitVec.toNat_umod, (sm64 y k hk).1, BitVec.toNat_ofNat]
  congr 1; show k % 2 ^ 64 % 64 = k; omega
def own_bit (x : Int64) (k : Nat) : Bool := x.toBitVec.getLsbD k
theorem own_rm {r : Int32} (h : ¬ r < 0) : r.toBitVec.toNat % 64 = r.toNatClampNeg % 64 := by
  obtain ⟨-, e, -⟩ := own_on h
  have e : r.toBitVec.toInt = r.toNatClampNeg := e
  have := r.toBitVec.isLt
  rw [BitVec.toInt_eq_toNat_cond] at e
  split at e <;> omega
theorem own_bit1 {r : Int32} (h : ¬ r < 0) {t : Nat} (ht : t < 64) : own_bit (own_lshl 1 r) t = decide (t = r.toNatClampNeg % 64) := by
  unfold own_bit
  rw [own_lshl_bv 1 r _ (own_rm h), BitVec.getLsbD_shiftLeft]
  show (_ && (1#64).getLsbD _) = _
  rw [BitVec.getLsbD_one, Bool.eq_iff_iff]
  simp; omega
theorem own_bitm {r : Int32} (h : ¬ r < 0) {t : Nat} (ht : t < 64) : own_bit (own_lshl (-1) r) t = decide (r.toNatClampNeg % 64 ≤ t) := by
  unfold own_bit
  rw [own_lshl_bv (-1) r _ (own_rm h), BitVec.getLsbD_shiftLeft]
  show (_ && (BitVec.allOnes 64).getLsbD _) = _
  rw [BitVec.getLsbD_allOnes, Bool.eq_iff_iff]
  simp; omega
theorem own_bitz {x : Int64} (h : ∀ t, t < 64 → own_bit x t = false) : x = 0 := by
  apply Int64.toBitVec_inj.mp
  apply BitVec.eq_of_getLsbD_eq; intro i hi
  rw [show x.toBitVec.getLsbD i = false from h i hi]
  show _ = (0#64).getLsbD i
  simp
theorem own_bitn {x : Int64} (h : ¬ x = 0) : ∃ t, t < 64 ∧ own_bit x t = true ∧ ∀ u, u < t → own_bit x u = false := by
  have : ∃ t, t < 64 ∧ own_bit x t = true := by
    apply Classical.byContradiction; intro q
    exact h (own_bitz fun t ht => by
      cases hb : own_bit x t
      · rfl
      · exact absurd ⟨t, ht, hb⟩ q)
  obtain ⟨t, ht, hb⟩ := this
  induction t using Nat.strongRecOn with
  | _ t ih =>
    by_cases q : ∃ u, u < t ∧ own_bit x u = true
    · obtain ⟨u, h1, h2⟩ := q
      exact ih u h1 (by omega) h2
    · exact ⟨t, ht, hb, fun u hu => by
        cases hc : own_bit x u
        · rfl
        · exact absurd ⟨u, hu, hc⟩ q⟩
/-- the bits below the lowest one -/
theorem own_low {x : BitVec 32} {t : Nat} (ht : t < 32) (hb : x.getLsbD t = true) (hl : ∀ u, u < t → x.getLsbD u = false) : (x ^^^ BitVec.ofInt 32 (-1)) &&& (x - 1#32) = BitVec.ofNat 32 (2 ^ t - 1) := by
  have hp : 2 ^ t < 2 ^ 32 := Nat.pow_lt_pow_right (by decide) ht
  have hp0 : 0 < 2 ^ t := Nat.two_pow_pos t
  have hm : x.toNat % 2 ^ t = 0 := by
    apply Nat.eq_of_testBit_eq; intro i
    rw [Nat.testBit_mod_two_pow, Nat.zero_testBit]
    by_cases hi : i < t
    · have := hl i hi
      rw [BitVec.getLsbD] at this
      rw [this]; simp
    · simp [hi]
  obtain ⟨q, hq⟩ : ∃ q, x.toNat = 2 ^ t * q := ⟨x.toNat / 2 ^ t, by have := Nat.div_add_mod x.toNat (2 ^ t); omega⟩
  have hodd : q.testBit 0 = true := by
    rw [BitVec.getLsbD, hq, Nat.mul_comm, Nat.testBit_mul_two_pow] at hb
    simpa using hb
  have hq1 : q % 2 = 1 := by simpa [Nat.testBit_zero] using hodd
  have hqp : 0 < q := by omega
  have hlt := x.isLt
  have hs : (x - 1#32).toNat = 2 ^ t * (q - 1) + (2 ^ t - 1) := by
    have e : 2 ^ t * q = 2 ^ t * (q - 1) + 2 ^ t := by rw [← Nat.mul_succ]; congr 1; omega
    have e3 : 0 < 2 ^ t * q := Nat.mul_pos hp0 hqp
    rw [BitVec.toNat_sub, show (1#32).toNat = 1 from rfl, hq]
    rw [hq] at hlt
    rw [show 2 ^ 32 - 1 + 2 ^ t * q = (2 ^ t * q - 1) + 2 ^ 32 from by omega, Nat.add_mod_right, Nat.mod_eq_of_lt (by omega)]
    omega
  apply BitVec.eq_of_getLsbD_eq; intro i hi
  rw [BitVec.getLsbD_and, BitVec.getLsbD_xor, show BitVec.ofInt 32 (-1) = BitVec.allOnes 32 from by decide, BitVec.getLsbD_allOnes]
  rw [show (BitVec.ofNat 32 (2 ^ t - 1)).getLsbD i = decide (i < t) from by
    rw [BitVec.getLsbD_ofNat, Nat.testBit_two_pow_sub_one]; simp [hi]]
  rw [show (x - 1#32).getLsbD i = (x - 1#32).toNat.testBit i from rfl, hs]
  by_cases h1 : i < t
  · rw [hl i h1, Nat.testBit_two_pow_mul_add _ (by omega)]
    simp [hi, h1, Nat.testBit_two_pow_sub_one]
  · by_cases h2 : i = t
    · subst h2; rw [hb]; simp [hi]
    · rw [Nat.testBit_two_pow_mul_add _ (by omega), show x.getLsbD i = x.toNat.testBit i from rfl, hq, Nat.testBit_two_pow_mul]
      simp only [h1, hi, if_false, decide_true, decide_false]
      obtain ⟨j, hj⟩ : ∃ j, i - t = j + 1 := ⟨i - t - 1, by omega⟩
      rw [hj, Nat.testBit_succ, Nat.testBit_succ, show (q - 1) / 2 = q / 2 from by omega]
      cases (q / 2).testBit j <;> simp <;> omega
/-! the ntz: OWNNI, OWNNJ as the walk prints them -/
def own_nI (z1 : Int32) : Int32 := (if (0 : Int32) < z1 then (let z6 := (if (65536 : Int32) < z1 then (own_iushr z1 (16 : Int32)) else z1); let z7 := (if (65536 : Int32) < z1 then (17 : Int32) else (1 : Int32)); let z11 := (if (256 : Int32) < z6 then (own_iushr z6 (8 : Int32)) else z6); let z12 := (if (256 : Int32) < z6 then (z7 + (8 : Int32)) else z7); let z16 := (if (16 : Int32) < z11 then (own_iushr z11 (4 : Int32)) else z11); let z17 := (if (16 : Int32) < z11 then (z12 + (4 : Int32)) else z12); let z21 := (if (4 : Int32) < z16 then (own_iushr z16 (2 : Int32)) else z16); let z22 := (if (4 : Int32) < z16 then (z17 + (2 : Int32)) else z17); (z22 + (own_iushr z21 (1 : Int32)))) else ((z1 &&& (32 : Int32))))
theorem own_nIf : ∀ t : Fin 32, own_nI (Int32.ofBitVec (BitVec.ofNat 32 (2 ^ t.1 - 1))) = Int32.ofNat t.1 := by decide +kernel
theorem own_nI1 {x : Int32} {t : Nat} (ht : t < 32) (hb : x.toBitVec.getLsbD t = true) (hl : ∀ u, u < t → x.toBitVec.getLsbD u = false) : own_nI ((x ^^^ (-1 : Int32)) &&& (x - (1 : Int32))) = Int32.ofNat t := by
  rw [← own_nIf ⟨t, ht⟩]
  congr 1
  apply Int32.toBitVec_inj.mp
  exact own_low ht hb hl
def own_nJ (q0 : Int64) : Int32 := (if (q0.toInt32) = (0 : Int32) then (((32 : Int32) + (own_nI (((own_lushr q0 (32 : Int32)).toInt32 ^^^ (-1 : Int32)) &&& ((own_lushr q0 (32 : Int32)).toInt32 - (1 : Int32)))))) else ((own_nI ((q0.toInt32 ^^^ (-1 : Int32)) &&& (q0.toInt32 - (1 : Int32))))))
theorem own_nJ1 {x : Int64} {t : Nat} (ht : t < 64) (hb : own_bit x t = true) (hl : ∀ u, u < t → own_bit x u = false) : own_nJ x = Int32.ofNat t := by
  have lo : ∀ i, x.toInt32.toBitVec.getLsbD i = (decide (i < 32) && own_bit x i) := fun i => by
    rw [Int64.toBitVec_toInt32, BitVec.signExtend_eq_setWidth_of_le _ (by decide), BitVec.getLsbD_setWidth]; rfl
  have hi : ∀ i, (own_lushr x (32 : Int32)).toInt32.toBitVec.getLsbD i = (decide (i < 32) && own_bit x (32 + i)) := fun i => by
    rw [Int64.toBitVec_toInt32, BitVec.signExtend_eq_setWidth_of_le _ (by decide), BitVec.getLsbD_setWidth, own_lushr_bv x 32 32 (by decide), BitVec.getLsbD_ushiftRight]; rfl
  unfold own_nJ
  by_cases h : t < 32
  · have h0 : ¬ x.toInt32 = 0 := fun q => by
      have := lo t
      rw [q, hb] at this
      simp [h] at this
    rw [if_neg h0]
    exact own_nI1 h (by rw [lo, hb]; simp [h]) fun u hu => by rw [lo, hl u hu]; simp
  · have h0 : x.toInt32 = 0 := by
      apply Int32.toBitVec_inj.mp
      apply BitVec.eq_of_getLsbD_eq; intro i hi
      rw [lo, hl i (by omega)]; show _ = (0#32).getLsbD i; simp
    rw [if_pos h0, own_nI1 (t := t - 32) (by omega) (by rw [hi, show 32 + (t - 32) = t from by omega, hb]; simp; omega) fun u hu => by rw [hi, hl (32 + u) (by omega)]; simp]
    rw [show (32 : Int32) = Int32.ofNat 32 from rfl, own_oad, show 32 + (t - 32) = t from by omega]

/-! the set's state: words, held, size, blocks, sorted -/
abbrev own_V : Type := (Nat → Int64) × (Nat → Int32) × Int32 × (Nat → Int32) × Int32
abbrev own_V.w_ (V : own_V) : Nat → Int64 := V.1
abbrev own_V.h_ (V : own_V) : Nat → Int32 := V.2.1
abbrev own_V.k_ (V : own_V) : Int32 := V.2.2.1
abbrev own_V.f_ (V : own_V) : Nat → Int32 := V.2.2.2.1
abbrev own_V.s_ (V : own_V) : Int32 := V.2.2.2.2
def own_v0 (fi : Nat → Int32) : own_V := ⟨fun _ => 0, fun _ => 0, 0, fi, 1⟩
def own_hold (V : own_V) (b : Int32) : own_V :=
  if V.h_ b.toNatClampNeg = 0 then ⟨V.w_, own_set V.h_ b 1, V.k_ + 1, own_set V.f_ V.k_ b, (V.s_ &&& (if V.k_ = 0 then 1 else if V.f_ (V.k_ - 1).toNatClampNeg < b then 1 else 0)) &&& 1⟩ else V
def own_vw (V : own_V) (r : Int32) : own_V := ⟨own_set V.w_ (r / 64) (V.w_ (r / 64).toNatClampNeg ||| own_lshl 1 r), V.h_, V.k_, V.f_, V.s_⟩
def own_vad (V : own_V) (r : Int32) : own_V := own_hold (own_vw V r) (r / 1024)
def own_adds (V : own_V) (L : List Int32) : own_V := L.foldl own_vad V
theorem own_addS (V : own_V) (P : List Int32) (r : Int32) : own_adds V (P ++ [r]) = own_vad (own_adds V P) r := by simp [own_adds, List.foldl_append]
theorem own_addA (V : own_V) (P Q : List Int32) : own_adds (own_adds V P) Q = own_adds V (P ++ Q) := by simp [own_adds, List.foldl_append]
/-- how many blocks it may hold -/
def own_VB (V : own_V) (d : Nat) : Prop := ∃ j, V.k_ = Int32.ofNat j ∧ j ≤ d
theorem own_VB0 (fi : Nat → Int32) : own_VB (own_v0 fi) 0 := ⟨0, rfl, Nat.le_refl _⟩
theorem own_VBw {V : own_V} {d d' : Nat} (h : own_VB V d) (q : d ≤ d') : own_VB V d' := by obtain ⟨j, e, l⟩ := h; exact ⟨j, e, Nat.le_trans l q⟩
theorem own_VBs {V : own_V} {d : Nat} (h : own_VB V d) (r : Int32) : own_VB (own_vad V r) (d + 1) := by
  obtain ⟨j, e, l⟩ := h
  unfold own_vad own_hold
  split
  · exact ⟨j + 1, by show V.k_ + 1 = _; rw [e]; exact own_oad j 1, by omega⟩
  · exact ⟨j, e, by omega⟩
theorem own_VBa {V : own_V} {d : Nat} (h : own_VB V d) (L : List Int32) : own_VB (own_adds V L) (d + L.length) := by
  induction L generalizing V d with
  | nil => exact h
  | cons x xs ih =>
    have q := ih (own_VBs h x)
    exact own_VBw q (by simp only [List.length_cons]; omega)
theorem own_VBk {V : own_V} (h : own_VB V 3) : (¬ V.k_ < 0 ∧ V.k_ < 16) ∧ (¬ V.k_ = 0 → ¬ V.k_ - 1 < 0 ∧ V.k_ - 1 < 16) := by
  obtain ⟨j, e, l⟩ := h
  rw [e]
  have : j = 0 ∨ j = 1 ∨ j = 2 ∨ j = 3 := by omega
  rcases this with rfl | rfl | rfl | rfl <;> decide
/-! its words -/
def own_Wd (M : List Int32) (W : Nat → Int64) : Prop := ∀ j t, t < 64 → (own_bit (W j) t = true ↔ own_ct M (64 * j + t) ≠ 0)
theorem own_hw (V : own_V) (b : Int32) : (own_hold V b).w_ = V.w_ := by unfold own_hold; split <;> rfl
theorem own_Wd0 (fi : Nat → Int32) : own_Wd [] (own_v0 fi).w_ := fun j t ht => by
  show own_bit 0 t = true ↔ _
  have : own_bit 0 t = false := by show (0#64).getLsbD t = false; simp
  rw [this]; simp [own_ct, own_cp]
theorem own_Wds {M : List Int32} {V : own_V} {r n nb : Int32} (hn : own_nn n nb) (hr : own_in r n) (h : own_Wd M V.w_) : own_Wd (M ++ [r]) (own_vad V r).w_ := fun j t ht => by
  obtain ⟨e1, q1, q2, q3, q4⟩ := own_inN hn hr
  have f1 := (own_d64 hn hr).1
  unfold own_vad; rw [own_hw, own_cta, own_ct1]
  show own_bit (own_set V.w_ (r / 64) (V.w_ (r / 64).toNatClampNeg ||| own_lshl 1 r) j) t = true ↔ _
  unfold own_set
  rw [f1, (own_no (k := r.toNatClampNeg / 64) (by omega)).2.1]
  by_cases hj : j = r.toNatClampNeg / 64
  · subst hj
    rw [if_pos rfl, show ∀ a b : Int64, own_bit (a ||| b) t = (own_bit a t || own_bit b t) from fun a b => BitVec.getLsbD_or .., own_bit1 hr.1 ht, Bool.or_eq_true, h _ t ht]
    by_cases h2 : t = r.toNatClampNeg % 64
    · rw [if_pos (by omega)]; simp [h2]
    · rw [if_neg (by omega)]; simp [h2]
  · rw [if_neg hj, if_neg (by omega)]; exact h j t ht
theorem own_Wda {M L : List Int32} {V : own_V} {n nb : Int32} (hn : own_nn n nb) (hm : ∀ r ∈ L, own_in r n) (h : own_Wd M V.w_) : own_Wd (M ++ L) (own_adds V L).w_ := by
  induction L generalizing M V with
  | nil => rw [List.append_nil]; exact h
  | cons x xs ih =>
    have q := ih (fun r hr => hm r (List.mem_cons_of_mem _ hr)) (own_Wds hn (hm x (List.mem_cons_self ..)) h)
    rw [List.append_assoc] at q; exact q
/-! its blocks -/
def own_b16 : List (List Nat) := [[], [0], [1], [2], [0, 1], [1, 0], [0, 2], [2, 0], [1, 2], [2, 1], [0, 1, 2], [0, 2, 1], [1, 0, 2], [1, 2, 0], [2, 0, 1], [2, 1, 0]]
def own_pw : List Nat → Bool
  | a :: b :: t => decide (a < b) && own_pw (b :: t)
  | _ => true
def own_hd (fn : Nat → Int32) (Bs : List Nat) : Prop := ∀ i, i < Bs.length → fn i = Int32.ofNat (Bs.getD i 0)
def own_BL (M : List Int32) (V : own_V) (Bs : List Nat) : Prop :=
  Bs ∈ own_b16 ∧ V.k_ = Int32.ofNat Bs.length ∧ own_hd V.f_ Bs ∧ (∀ b, b < 3 → V.h_ b = if b ∈ Bs then 1 else 0) ∧ (∀ b, b ∈ Bs ↔ ∃ r ∈ M, r.toNatClampNeg / 1024 = b) ∧ V.s_ = if own_pw Bs then 1 else 0
theorem own_BL0 (fi : Nat → Int32) : own_BL [] (own_v0 fi) [] := ⟨by decide, rfl, fun i hi => absurd hi (Nat.not_lt_zero _), fun b hb => rfl, fun b => by simp, rfl⟩
theorem own_b16f : ∀ Bs ∈ own_b16, Bs.length ≤ 3 ∧ (∀ b ∈ Bs, b < 3) ∧ ∀ b : Fin 3, ¬ b.1 ∈ Bs → (Bs ++ [b.1] ∈ own_b16 ∧ Bs.length ≤ 2 ∧ own_pw (Bs ++ [b.1]) = (own_pw Bs && (Bs.length == 0 || decide (Bs.getD (Bs.length - 1) 0 < b.1)))) := by decide +kernel
theorem own_b3 : ∀ p q : Bool, ((if p then (1 : Int32) else 0) &&& (if q then 1 else 0)) &&& 1 = if (p && q) then 1 else 0 := by decide
theorem own_BLs {M : List Int32} {V : own_V} {r n nb : Int32} {Bs : List Nat} (hn : own_nn n nb) (hr : own_in r n) (h : own_BL M V Bs) : ∃ Bs', own_BL (M ++ [r]) (own_vad V r) Bs' := by
  obtain ⟨e1, q1, q2, q3, q4⟩ := own_inN hn hr
  obtain ⟨-, -, f2, -⟩ := own_d64 hn hr
  obtain ⟨h1, h2, h3, h4, h5, h6⟩ := h
  obtain ⟨g1, g2, g3⟩ := own_b16f Bs h1
  have hb3 : r.toNatClampNeg / 1024 < 3 := by omega
  have hbn : (Int32.ofNat (r.toNatClampNeg / 1024)).toNatClampNeg = r.toNatClampNeg / 1024 := (own_no (by omega)).2.1
  have hm : ∀ b, (b ∈ Bs ∨ b = r.toNatClampNeg / 1024) ↔ ∃ x ∈ M ++ [r], x.toNatClampNeg / 1024 = b := fun b => by
    rw [h5]; simp only [List.mem_append, List.mem_singleton]
    constructor
    · rintro (⟨x, hx, e⟩ | e)
      · exact ⟨x, Or.inl hx, e⟩
      · exact ⟨r, Or.inr rfl, e.symm⟩
    · rintro ⟨x, hx | rfl, e⟩
      · exact Or.inl ⟨x, hx, e⟩
      · exact Or.inr e.symm
  unfold own_vad own_hold
  rw [f2, hbn]
  show ∃ Bs', own_BL (M ++ [r]) (if V.h_ (r.toNatClampNeg / 1024) = 0 then _ else _) Bs'
  rw [h4 _ hb3]
  by_cases hc : r.toNatClampNeg / 1024 ∈ Bs
  · rw [if_pos hc, if_neg (by decide)]
    exact ⟨Bs, h1, h2, h3, h4, fun b => by rw [← hm]; exact ⟨Or.inl, fun z => z.elim id (fun e => e ▸ hc)⟩, h6⟩
  · rw [if_neg hc, if_pos rfl]
    obtain ⟨k1, k2, k3⟩ := g3 ⟨_, hb3⟩ hc
    have hk : (Int32.ofNat Bs.length).toNatClampNeg = Bs.length := (own_no (by omega)).2.1
    refine ⟨Bs ++ [r.toNatClampNeg / 1024], k1, ?_, ?_, ?_, fun b => by rw [← hm]; simp, ?_⟩
    · show V.k_ + 1 = _; rw [h2, List.length_append]; exact own_oad _ 1
    · intro i hi
      rw [List.length_append] at hi
      show own_set V.f_ V.k_ _ i = _
      rw [h2]; unfold own_set; rw [hk]
      by_cases hq : i = Bs.length
      · rw [if_pos hq, hq]; simp [List.getD]
      · have hi' : i < Bs.length := by simp at hi; omega
        rw [if_neg hq, h3 i hi']; simp [List.getD, List.getElem?_append_left hi']
    · intro b hb
      show own_set V.h_ _ 1 b = _
      unfold own_set; rw [hbn]
      by_cases hq : b = r.toNatClampNeg / 1024
      · rw [if_pos hq, if_pos (by simp [hq])]
      · rw [if_neg hq, h4 b hb]; simp [hq]
    · show (V.s_ &&& (if V.k_ = 0 then 1 else if V.f_ (V.k_ - 1).toNatClampNeg < _ then 1 else 0)) &&& 1 = _
      rw [k3, h6, h2]
      have key : (if Int32.ofNat Bs.length = 0 then (1 : Int32) else if V.f_ (Int32.ofNat Bs.length - 1).toNatClampNeg < Int32.ofNat (r.toNatClampNeg / 1024) then 1 else 0) = if (Bs.length == 0 || decide (Bs.getD (Bs.length - 1) 0 < r.toNatClampNeg / 1024)) then 1 else 0 := by
        by_cases hz : Bs.length = 0
        · rw [hz, if_pos (by decide), if_pos (by simp)]
        · have z1 : ¬ Int32.ofNat Bs.length = 0 := fun q => hz ((own_ofl (a := Bs.length) (b := 0) (by omega) (by omega)).2.mp q)
          have z2 : (Int32.ofNat Bs.length - 1).toNatClampNeg = Bs.length - 1 := by
            rw [show Int32.ofNat Bs.length = Int32.ofNat (Bs.length - 1) + Int32.ofNat 1 from by rw [own_oad]; congr 1; omega, show (1 : Int32) = Int32.ofNat 1 from rfl, Int32.add_sub_cancel]; exact (own_no (by omega)).2.1
          have z3 : Bs.getD (Bs.length - 1) 0 < 3 := g2 _ (by simp [List.getD, show Bs.length - 1 < Bs.length from by omega])
          have z4 := (own_ofl (a := Bs.getD (Bs.length - 1) 0) (b := r.toNatClampNeg / 1024) (by omega) (by omega)).1
          rw [if_neg z1, z2, h3 _ (by omega), show (Bs.length == 0) = false from by simpa using hz, Bool.false_or]
          by_cases z5 : Bs.getD (Bs.length - 1) 0 < r.toNatClampNeg / 1024
          · rw [if_pos (z4.mpr z5), if_pos (decide_eq_true z5)]
          · rw [if_neg (fun q => z5 (z4.mp q)), if_neg (fun q => z5 (of_decide_eq_true q))]
      rw [key]; exact own_b3 _ _
theorem own_BLa {M L : List Int32} {V : own_V} {n nb : Int32} {Bs : List Nat} (hn : own_nn n nb) (hm : ∀ r ∈ L, own_in r n) (h : own_BL M V Bs) : ∃ Bs', own_BL (M ++ L) (own_adds V L) Bs' := by
  induction L generalizing M V Bs with
  | nil => rw [List.append_nil]; exact ⟨Bs, h⟩
  | cons x xs ih =>
    obtain ⟨B1, q1⟩ := own_BLs hn (hm x (List.mem_cons_self ..)) h
    have q := ih (fun r hr => hm r (List.mem_cons_of_mem _ hr)) q1
    rw [List.append_assoc] at q; exact q
theorem own_h1 {V : own_V} {b : Int32} (h : V.h_ b.toNatClampNeg = 0) : (own_hold V b).k_ = V.k_ + 1 ∧ (own_hold V b).f_ = own_set V.f_ V.k_ b ∧ (own_hold V b).h_ = own_set V.h_ b 1 := by unfold own_hold; rw [if_pos h]; exact ⟨rfl, rfl, rfl⟩
theorem own_ho {V : own_V} {b : Int32} (h : ¬ V.h_ b.toNatClampNeg = 0) : own_hold V b = V := by unfold own_hold; rw [if_neg h]
theorem own_hsj {V : own_V} {b : Int32} (h : V.h_ b.toNatClampNeg = 0) : (own_hold V b).s_ = (V.s_ &&& (if V.k_ = 0 then 1 else if V.f_ (V.k_ - 1).toNatClampNeg < b then 1 else 0)) &&& 1 := by unfold own_hold; rw [if_pos h]
theorem own_va (V : own_V) (r : Int32) : (own_vad V r).w_ = own_set V.w_ (r / 64) (V.w_ (r / 64).toNatClampNeg ||| own_lshl 1 r) ∧ (own_vad V r).h_ = (own_hold V (r / 1024)).h_ ∧ (own_vad V r).k_ = (own_hold V (r / 1024)).k_ ∧ (own_vad V r).f_ = (own_hold V (r / 1024)).f_ ∧ (own_vad V r).s_ = (own_hold V (r / 1024)).s_ := by
  refine ⟨by unfold own_vad; rw [own_hw]; rfl, ?_⟩
  show _ ∧ _ ∧ _ ∧ _
  unfold own_vad own_hold
  show (if V.h_ _ = 0 then _ else _ : own_V).h_ = _ ∧ (if V.h_ _ = 0 then _ else _ : own_V).k_ = _ ∧ (if V.h_ _ = 0 then _ else _ : own_V).f_ = _ ∧ (if V.h_ _ = 0 then _ else _ : own_V).s_ = _
  split <;> exact ⟨rfl, rfl, rfl, rfl⟩
theorem own_p23 {k : Int32} (h : k = 2 ∨ k = 3) : ¬ k < 0 ∧ ¬ (16 : Int32) < k ∧ k - 0 < 65 ∧ k - 0 < 44 := by rcases h with rfl | rfl <;> decide
theorem own_m48 {p : Int32} (h : ∃ m : Nat, p = Int32.ofNat m ∧ m ≤ 3) : (¬ p * 16 < 0 ∧ (p * 16).toNatClampNeg ≤ 48) ∧ ¬ p < 0 ∧ p.toNatClampNeg ≤ 3 := by
  obtain ⟨m, rfl, h⟩ := h
  have : m = 0 ∨ m = 1 ∨ m = 2 ∨ m = 3 := by omega
  rcases this with rfl | rfl | rfl | rfl <;> decide

/-! sort -/
def own_s2 (a b : Int32) : Int32 × Int32 := if b < a then (b, a) else (a, b)
def own_s3 (a b c : Int32) : Int32 × Int32 × Int32 := if c < (own_s2 a b).2 then (if c < (own_s2 a b).1 then (c, own_s2 a b) else ((own_s2 a b).1, c, (own_s2 a b).2)) else ((own_s2 a b).1, (own_s2 a b).2, c)
def own_srt (k : Int32) (f g : Nat → Int32) : Prop := (k = 2 ∧ (g 0, g 1) = own_s2 (f 0) (f 1)) ∨ (k = 3 ∧ (g 0, g 1, g 2) = own_s3 (f 0) (f 1) (f 2))
/-- insertion sort: the first kk + 1 places are in order -/
def own_iI (p2 : Int32) (f : Nat → Int32) (kk : Int32) (g : Nat → Int32) : Prop := (kk = 0 ∧ g = f) ∨ (kk = 1 ∧ (g 0, g 1) = own_s2 (f 0) (f 1) ∧ g 2 = f 2) ∨ (kk = 2 ∧ p2 = 3 ∧ (g 0, g 1, g 2) = own_s3 (f 0) (f 1) (f 2))
section OwnI
variable {p2 kk : Int32} {f g : Nat → Int32}
theorem own_iK (h : own_iI p2 f kk g) : kk + 1 = 1 ∨ kk + 1 = 2 ∨ kk + 1 = 3 := by
  rcases h with ⟨rfl, -⟩ | ⟨rfl, -⟩ | ⟨rfl, -⟩ <;> decide
theorem own_i1 (h : own_iI p2 f kk g) (e : kk + 1 = 1) : g = f ∧ (8 - (1 : Int32).toInt).toNat < (8 - kk.toInt).toNat := by
  rcases h with ⟨rfl, h⟩ | ⟨rfl, -⟩ | ⟨rfl, -⟩
  · exact ⟨h, by decide⟩
  · exact absurd e (by decide)
  · exact absurd e (by decide)
theorem own_i2 (h : own_iI p2 f kk g) (e : kk + 1 = 2) : ((g 0, g 1) = own_s2 (f 0) (f 1) ∧ g 2 = f 2) ∧ (8 - (2 : Int32).toInt).toNat < (8 - kk.toInt).toNat := by
  rcases h with ⟨rfl, h⟩ | ⟨rfl, h⟩ | ⟨rfl, -⟩
  · exact absurd e (by decide)
  · exact ⟨h, by decide⟩
  · exact absurd e (by decide)
theorem own_i3 (h : own_iI p2 f kk g) (e : kk + 1 = 3) (hp : p2 = 2 ∨ p2 = 3) : own_srt p2 f g := by
  rcases h with ⟨rfl, h⟩ | ⟨rfl, h⟩ | ⟨rfl, h⟩
  · exact absurd e (by decide)
  · exact absurd e (by decide)
  · exact Or.inr h
theorem own_iA (h : own_iI p2 f kk g) (e : kk + 1 = 1) (c : g 1 < g 0) : own_iI p2 f 1 (own_set (own_set g 1 (g 0)) 0 (g 1)) := by
  obtain ⟨rfl, -⟩ := own_i1 h e
  refine Or.inr (Or.inl ⟨rfl, ?_, rfl⟩)
  unfold own_s2; rw [if_pos c]; rfl
theorem own_iB (h : own_iI p2 f kk g) (e : kk + 1 = 1) (c : ¬ g 1 < g 0) : own_iI p2 f 1 g := by
  obtain ⟨rfl, -⟩ := own_i1 h e
  refine Or.inr (Or.inl ⟨rfl, ?_, rfl⟩)
  unfold own_s2; rw [if_neg c]
theorem own_iS (h : own_iI p2 f kk g) (e : kk + 1 = 2) (hp : p2 = 2 ∨ p2 = 3) (c : (2 : Int32) < p2) : p2 = 3 ∧ own_s3 (f 0) (f 1) (f 2) = if g 2 < g 1 then (if g 2 < g 0 then (g 2, g 0, g 1) else (g 0, g 2, g 1)) else (g 0, g 1, g 2) := by
  obtain ⟨⟨h1, h2⟩, -⟩ := own_i2 h e
  refine ⟨hp.resolve_left (fun q => by rw [q] at c; exact absurd c (by decide)), ?_⟩
  unfold own_s3
  rw [← h1, h2]
theorem own_iC (h : own_iI p2 f kk g) (e : kk + 1 = 2) (hp : p2 = 2 ∨ p2 = 3) (c : (2 : Int32) < p2) (c1 : g 2 < g 1) (c2 : g 2 < g 0) : own_iI p2 f 2 (own_set (own_set (own_set g 2 (g 1)) 1 (g 0)) 0 (g 2)) := by
  obtain ⟨q1, q2⟩ := own_iS h e hp c
  rw [if_pos c1, if_pos c2] at q2
  exact Or.inr (Or.inr ⟨rfl, q1, q2.symm⟩)
theorem own_iD (h : own_iI p2 f kk g) (e : kk + 1 = 2) (hp : p2 = 2 ∨ p2 = 3) (c : (2 : Int32) < p2) (c1 : g 2 < g 1) (c2 : ¬ g 2 < g 0) : own_iI p2 f 2 (own_set (own_set g 2 (g 1)) 1 (g 2)) := by
  obtain ⟨q1, q2⟩ := own_iS h e hp c
  rw [if_pos c1, if_neg c2] at q2
  exact Or.inr (Or.inr ⟨rfl, q1, q2.symm⟩)
theorem own_iE (h : own_iI p2 f kk g) (e : kk + 1 = 2) (hp : p2 = 2 ∨ p2 = 3) (c : (2 : Int32) < p2) (c1 : ¬ g 2 < g 1) : own_iI p2 f 2 g := by
  obtain ⟨q1, q2⟩ := own_iS h e hp c
  rw [if_neg c1] at q2
  exact Or.inr (Or.inr ⟨rfl, q1, q2.symm⟩)
theorem own_iX (h : own_iI p2 f kk g) (e : kk + 1 = 2) (hp : p2 = 2 ∨ p2 = 3) (c : ¬ (2 : Int32) < p2) : own_srt p2 f g :=
  Or.inl ⟨hp.resolve_right (fun q => c (by rw [q]; decide)), (own_i2 h e).1.1⟩
end OwnI
def own_BS (M : List Int32) (k : Int32) (g : Nat → Int32) : Prop := ∃ Bs ∈ own_b16, own_pw Bs = true ∧ k = Int32.ofNat Bs.length ∧ own_hd g Bs ∧ ∀ b, b ∈ Bs ↔ ∃ r ∈ M, r.toNatClampNeg / 1024 = b
def own_o (Bs : List Nat) (i : Nat) : Int32 := Int32.ofNat (Bs.getD i 0)
def own_cf (Bs : List Nat) : List Nat := [0, 1, 2].filter fun b => decide (b ∈ Bs)
theorem own_srf : ∀ Bs ∈ own_b16, own_pw Bs = false → (Bs.length = 2 ∨ Bs.length = 3) ∧ own_cf Bs ∈ own_b16 ∧ own_pw (own_cf Bs) = true ∧ (own_cf Bs).length = Bs.length ∧ (∀ b : Fin 3, b.1 ∈ own_cf Bs ↔ b.1 ∈ Bs) ∧ (Bs.length = 2 → own_s2 (own_o Bs 0) (own_o Bs 1) = (own_o (own_cf Bs) 0, own_o (own_cf Bs) 1)) ∧
    (Bs.length = 3 → own_s3 (own_o Bs 0) (own_o Bs 1) (own_o Bs 2) = (own_o (own_cf Bs) 0, own_o (own_cf Bs) 1, own_o (own_cf Bs) 2)) := by decide +kernel
theorem own_k23 {M : List Int32} {V : own_V} (h : ∃ Bs, own_BL M V Bs) (hs : V.s_ = 0) : V.k_ = 2 ∨ V.k_ = 3 := by
  obtain ⟨Bs, h1, h2, h3, h4, h5, h6⟩ := h
  rw [hs] at h6
  cases hp : own_pw Bs
  · rcases (own_srf Bs h1 hp).1 with e | e <;> rw [h2, e]
    · exact Or.inl rfl
    · exact Or.inr rfl
  · rw [hp] at h6; exact absurd h6 (by decide)
theorem own_BS0 {M : List Int32} {V : own_V} (h : ∃ Bs, own_BL M V Bs) (hs : ¬ V.s_ = 0) : own_BS M V.k_ V.f_ := by
  obtain ⟨Bs, h1, h2, h3, h4, h5, h6⟩ := h
  cases hp : own_pw Bs
  · rw [hp] at h6; exact absurd h6 hs
  · exact ⟨Bs, h1, hp, h2, h3, h5⟩
theorem own_BS1 {M : List Int32} {V : own_V} {g : Nat → Int32} (h : ∃ Bs, own_BL M V Bs) (hs : V.s_ = 0) (hg : own_srt V.k_ V.f_ g) : own_BS M V.k_ g := by
  obtain ⟨Bs, h1, h2, h3, h4, h5, h6⟩ := h
  rw [hs] at h6
  cases hp : own_pw Bs
  · obtain ⟨-, c1, c2, c3, c5, q2, q3⟩ := own_srf Bs h1 hp
    generalize own_cf Bs = C at *
    have mm : ∀ C ∈ own_b16, (∀ b : Fin 3, b.1 ∈ C ↔ b.1 ∈ Bs) → ∀ b, b ∈ C ↔ ∃ r ∈ M, r.toNatClampNeg / 1024 = b := fun C hC e b => by
      rw [← h5]
      constructor
      · intro hb; exact (e ⟨b, (own_b16f C hC).2.1 b hb⟩).mp hb
      · intro hb; exact (e ⟨b, (own_b16f Bs h1).2.1 b hb⟩).mpr hb
    have hl := (own_b16f Bs h1).1
    rcases hg with ⟨e, hg⟩ | ⟨e, hg⟩
    · have hl2 : Bs.length = 2 := (own_ofl (a := Bs.length) (b := 2) (by omega) (by omega)).2.mp (by rw [← h2, e]; rfl)
      have c4 := q2 hl2
      rw [h3 0 (by omega), h3 1 (by omega)] at hg
      rw [show own_s2 (Int32.ofNat (Bs.getD 0 0)) (Int32.ofNat (Bs.getD 1 0)) = _ from c4] at hg
      injection hg with g0 g1
      refine ⟨C, c1, c2, by rw [h2, c3], fun i hi => ?_, mm C c1 c5⟩
      rw [c3, hl2] at hi
      match i, hi with
      | 0, _ => exact g0
      | 1, _ => exact g1
    · have hl2 : Bs.length = 3 := (own_ofl (a := Bs.length) (b := 3) (by omega) (by omega)).2.mp (by rw [← h2, e]; rfl)
      have c4 := q3 hl2
      rw [h3 0 (by omega), h3 1 (by omega), h3 2 (by omega)] at hg
      rw [show own_s3 (Int32.ofNat (Bs.getD 0 0)) (Int32.ofNat (Bs.getD 1 0)) (Int32.ofNat (Bs.getD 2 0)) = _ from c4] at hg
      injection hg with g0 g1
      injection g1 with g1 g2
      refine ⟨C, c1, c2, by rw [h2, c3], fun i hi => ?_, mm C c1 c5⟩
      rw [c3, hl2] at hi
      match i, hi with
      | 0, _ => exact g0
      | 1, _ => exact g1
      | 2, _ => exact g2
  · rw [hp] at h6; exact absurd h6 (by decide)
/-! next -/
def own_np (M : List Int32) (W : Nat → Int64) (nb b fr : Int32) : Prop := own_Wd M W ∧ ∃ m x y : Nat, nb = Int32.ofNat m ∧ m ≤ 3 ∧ b = Int32.ofNat x ∧ x < m ∧ fr = Int32.ofNat y ∧ 1024 * x ≤ y ∧ y ≤ 1024 * (x + 1)
def own_nR (M : List Int32) (b fr rx : Int32) : Prop := (rx = -1 ∧ ∀ u, fr.toNatClampNeg ≤ u → u < 1024 * (b.toNatClampNeg + 1) → own_ct M u = 0) ∨ ∃ x, rx = Int32.ofNat x ∧ own_ct M x ≠ 0 ∧ fr.toNatClampNeg ≤ x ∧ x < 1024 * (b.toNatClampNeg + 1) ∧ ∀ u, fr.toNatClampNeg ≤ u → u < x → own_ct M u = 0
def own_nK (M : List Int32) (W : Nat → Int64) (nb b fr wi : Int32) (bt : Int64) : Prop := own_Wd M W ∧ ∃ m x y z : Nat, (nb = Int32.ofNat m ∧ m ≤ 3 ∧ b = Int32.ofNat x ∧ x < m ∧ fr = Int32.ofNat y ∧ 1024 * x ≤ y ∧ y ≤ 1024 * (x + 1)) ∧ wi = Int32.ofNat z ∧ y / 64 ≤ z ∧ z < 16 * (x + 1) ∧ (∀ t, t < 64 → (own_bit bt t = true ↔ own_ct M (64 * z + t) ≠ 0 ∧ y ≤ 64 * z + t)) ∧ ∀ u, y ≤ u → u < 64 * z → own_ct M u = 0
section OwnN
variable {M : List Int32} {W : Nat → Int64} {nb b fr wi : Int32} {bt : Int64}
theorem own_nE (x : Nat) : (Int32.ofNat x + 1) * 16 = Int32.ofNat (16 * (x + 1)) := by
  rw [show (1 : Int32) = Int32.ofNat 1 from rfl, own_oad, show (16 : Int32) = Int32.ofNat 16 from rfl, own_oml, Nat.mul_comm]
theorem own_n64 {y : Nat} (hy : y < 2147483648) : Int32.ofNat y / 64 = Int32.ofNat (y / 64) := own_odv (d := 64) hy (by decide) (by decide)
theorem own_nPx (h : own_np M W nb b fr) (hc : ¬ fr / 64 < (b + 1) * 16) : own_nR M b fr (-1) := by
  obtain ⟨hW, m, x, y, rfl, h1, rfl, h2, rfl, h3, h4⟩ := h
  rw [own_n64 (by omega), own_nE, (own_ofl (by omega) (by omega)).1] at hc
  refine Or.inl ⟨rfl, fun u hu hv => ?_⟩
  rw [(own_no (k := y) (by omega)).2.1] at hu
  rw [(own_no (k := x) (by omega)).2.1] at hv
  omega
theorem own_nPi (h : own_np M W nb b fr) (hc : fr / 64 < (b + 1) * 16) : ¬ fr / 64 < 0 ∧ fr / 64 < nb * 16 := by
  obtain ⟨hW, m, x, y, rfl, h1, rfl, h2, rfl, h3, h4⟩ := h
  rw [own_n64 (by omega), own_nE, (own_ofl (by omega) (by omega)).1] at hc
  rw [own_n64 (by omega), show Int32.ofNat m * 16 = Int32.ofNat (m * 16) from own_oml m 16]
  exact ⟨(own_no (by omega)).2.2, (own_ofl (by omega) (by omega)).1.mpr (by omega)⟩
theorem own_nK0 (h : own_np M W nb b fr) (hc : fr / 64 < (b + 1) * 16) : own_nK M W nb b fr (fr / 64) (W (fr / 64).toNatClampNeg &&& own_lshl (-1) fr) := by
  obtain ⟨hW, m, x, y, rfl, h1, rfl, h2, rfl, h3, h4⟩ := h
  rw [own_n64 (by omega), own_nE, (own_ofl (by omega) (by omega)).1] at hc
  refine ⟨hW, m, x, y, y / 64, ⟨rfl, h1, rfl, h2, rfl, h3, h4⟩, own_n64 (by omega), Nat.le_refl _, by omega, fun t ht => ?_, fun u hu hv => by omega⟩
  rw [own_n64 (by omega), (own_no (k := y / 64) (by omega)).2.1, show ∀ a c : Int64, own_bit (a &&& c) t = (own_bit a t && own_bit c t) from fun a c => BitVec.getLsbD_and .., own_bitm (own_no (by omega)).2.2 ht, (own_no (k := y) (by omega)).2.1, Bool.and_eq_true, hW _ t ht]
  simp only [decide_eq_true_eq]
  constructor
  · rintro ⟨q1, q2⟩; exact ⟨q1, by omega⟩
  · rintro ⟨q1, q2⟩; exact ⟨q1, by omega⟩
theorem own_nKz (h : own_nK M W nb b fr wi bt) (h0 : bt = 0) : ∃ m x y z : Nat, (nb = Int32.ofNat m ∧ m ≤ 3 ∧ b = Int32.ofNat x ∧ x < m ∧ fr = Int32.ofNat y ∧ 1024 * x ≤ y ∧ y ≤ 1024 * (x + 1)) ∧ wi = Int32.ofNat z ∧ y / 64 ≤ z ∧ z < 16 * (x + 1) ∧ ∀ u, y ≤ u → u < 64 * (z + 1) → own_ct M u = 0 := by
  obtain ⟨hW, m, x, y, z, hh, h5, h6, h7, h8, h9⟩ := h
  refine ⟨m, x, y, z, hh, h5, h6, h7, fun u hu hv => ?_⟩
  by_cases q : u < 64 * z
  · exact h9 u hu q
  · have q2 := h8 (u - 64 * z) (by omega)
    rw [show 64 * z + (u - 64 * z) = u from by omega] at q2
    have q3 : own_bit bt (u - 64 * z) = false := by rw [h0]; show (0#64).getLsbD _ = false; simp
    rw [q3] at q2
    apply Classical.byContradiction; intro q4
    exact absurd (q2.mpr ⟨q4, hu⟩) (by decide)
theorem own_nKb (h : own_nK M W nb b fr wi bt) (h0 : bt = 0) (hc : ¬ wi + 1 = (b + 1) * 16) : own_nK M W nb b fr (wi + 1) (W (wi + 1).toNatClampNeg) ∧ (64 - (wi + 1).toInt).toNat < (64 - wi.toInt).toNat ∧ ¬ (wi + 1) < 0 ∧ (wi + 1) < nb * 16 := by
  obtain ⟨m, x, y, z, ⟨rfl, h1, rfl, h2, rfl, h3, h4⟩, rfl, h5, h6, h7⟩ := own_nKz h h0
  have e : Int32.ofNat z + 1 = Int32.ofNat (z + 1) := own_oad z 1
  rw [e, own_nE, (own_ofl (by omega) (by omega)).2] at hc
  rw [e, (own_no (k := z + 1) (by omega)).1, (own_no (k := z) (by omega)).1, (own_no (k := z + 1) (by omega)).2.1, show Int32.ofNat m * 16 = Int32.ofNat (m * 16) from own_oml m 16]
  refine ⟨⟨h.1, m, x, y, z + 1, ⟨rfl, h1, rfl, h2, rfl, h3, h4⟩, rfl, by omega, by omega, fun t ht => ?_, h7⟩, by omega, (own_no (by omega)).2.2, (own_ofl (by omega) (by omega)).1.mpr (by omega)⟩
  rw [h.1 _ t ht]
  exact ⟨fun q => ⟨q, by omega⟩, fun q => q.1⟩
theorem own_nKx (h : own_nK M W nb b fr wi bt) (h0 : bt = 0) (hc : wi + 1 = (b + 1) * 16) : own_nR M b fr (-1) := by
  obtain ⟨m, x, y, z, ⟨rfl, h1, rfl, h2, rfl, h3, h4⟩, rfl, h5, h6, h7⟩ := own_nKz h h0
  rw [show Int32.ofNat z + 1 = Int32.ofNat (z + 1) from own_oad z 1, own_nE, (own_ofl (by omega) (by omega)).2] at hc
  refine Or.inl ⟨rfl, fun u hu hv => h7 u ?_ ?_⟩
  · rw [(own_no (k := y) (by omega)).2.1] at hu; exact hu
  · rw [(own_no (k := x) (by omega)).2.1] at hv; omega
theorem own_nKv (h : own_nK M W nb b fr wi bt) (h0 : ¬ bt = 0) : own_nR M b fr (wi * 64 + own_nJ bt) := by
  obtain ⟨hW, m, x, y, z, ⟨rfl, h1, rfl, h2, rfl, h3, h4⟩, rfl, h5, h6, h7, h8⟩ := h
  obtain ⟨t, ht, hb, hl⟩ := own_bitn h0
  obtain ⟨q1, q2⟩ := (h7 t ht).mp hb
  refine Or.inr ⟨64 * z + t, ?_, q1, ?_, ?_, fun u hu hv => ?_⟩
  · rw [own_nJ1 ht hb hl, show (64 : Int32) = Int32.ofNat 64 from rfl, own_oml, own_oad, Nat.mul_comm]
  · rw [(own_no (k := y) (by omega)).2.1]; exact q2
  · rw [(own_no (k := x) (by omega)).2.1]; omega
  · rw [(own_no (k := y) (by omega)).2.1] at hu
    by_cases q : u < 64 * z
    · exact h8 u hu q
    · have r := h7 (u - 64 * z) (by omega)
      rw [show 64 * z + (u - 64 * z) = u from by omega, hl _ (by omega)] at r
      apply Classical.byContradiction; intro q4
      exact absurd (r.mpr ⟨q4, hu⟩) (by decide)
end OwnN

theorem own_ne16 {x : Int32} (h : x < 16) : ¬ x = (16 : Int32) := fun e => by subst e; revert h; decide
theorem own_succ {i p2 : Int32} (h : ¬ i < 0) (hc : i < p2) : (i + 1).toInt = i.toInt + 1 := by
  rw [Int32.lt_iff_toInt_lt] at h hc
  have a := c_iadd i 1
  have r := rng32 (i + 1)
  have r2 := rng32 p2
  have k1 : (1 : Int32).toInt = 1 := by decide
  have k0 : (0 : Int32).toInt = 0 := by decide
  rw [k1] at a
  omega
/-! fill -/
def own_fil {α : Type} (f : Nat → α) (a b : Int32) (v : α) : Nat → α := fun j => if a.toNatClampNeg ≤ j ∧ j < b.toNatClampNeg then v else f j
def own_fb (a b n : Int32) : Prop := ¬ b < a ∧ ¬ a < 0 ∧ ¬ n < b
def own_fL {α : Type} (f : Nat → α) (a b : Int32) (v : α) (i : Int32) (fL : Nat → α) : Prop := (0 ≤ a.toInt ∧ a.toInt ≤ i.toInt ∧ i.toInt ≤ b.toInt) ∧ fL = own_fil f a i v
theorem own_fL0 {α : Type} {f : Nat → α} {a b n : Int32} {v : α} (h : own_fb a b n) : own_fL f a b v a f := by
  obtain ⟨h1, h2, h3⟩ := h
  rw [Int32.lt_iff_toInt_lt] at h1 h2
  rw [show (0 : Int32).toInt = 0 from by decide] at h2
  refine ⟨by omega, funext fun j => ?_⟩
  unfold own_fil; rw [if_neg (by omega)]
theorem own_fLs {α : Type} {f fL : Nat → α} {a b i n : Int32} {v : α} (hb : own_fb a b n) (h : own_fL f a b v i fL) (hc : i < b) : own_fL f a b v (i + 1) (own_set fL i v) ∧ (b.toInt - (i + 1).toInt).toNat < (b.toInt - i.toInt).toNat ∧ ¬ i < 0 ∧ i < n := by
  obtain ⟨h1, rfl⟩ := h
  have h0 : ¬ i < 0 := by rw [Int32.lt_iff_toInt_lt, show (0 : Int32).toInt = 0 from by decide]; omega
  have e := own_succ h0 hc
  have hb3 := hb.2.2
  rw [Int32.lt_iff_toInt_lt] at hc hb3
  refine ⟨⟨by omega, funext fun j => ?_⟩, by omega, h0, by rw [Int32.lt_iff_toInt_lt]; omega⟩
  unfold own_set own_fil
  have e1 : (i + 1).toNatClampNeg = i.toNatClampNeg + 1 := by simp only [Int32.toNatClampNeg]; omega
  have e2 : a.toNatClampNeg ≤ i.toNatClampNeg := by simp only [Int32.toNatClampNeg]; omega
  rw [e1]
  by_cases q : j = i.toNatClampNeg
  · rw [if_pos q, if_pos (by omega)]
  · rw [if_neg q]
    by_cases r : a.toNatClampNeg ≤ j ∧ j < i.toNatClampNeg
    · rw [if_pos r, if_pos (by omega)]
    · rw [if_neg r, if_neg (by omega)]
theorem own_fLx {α : Type} {f fL : Nat → α} {a b i : Int32} {v : α} (h : own_fL f a b v i fL) (hc : ¬ i < b) : fL = own_fil f a b v := by
  obtain ⟨h1, h2⟩ := h
  have e : i = b := by
    apply Int32.toInt_inj.mp
    rw [Int32.lt_iff_toInt_lt] at hc; omega
  rw [h2, e]
def own_tot (t : Int64) (L : List Int32) : Int64 := t + (Int32.ofNat L.length).toInt64
def own_cnt (E : Nat → Int32) (L : List Int32) : Nat → Int32 := L.foldl (fun e r => own_set e r (e r.toNatClampNeg + 1)) E
def own_I2 (E : Nat → Int32) (V : own_V) (L : List Int32) (i : Int32) (eL : Nat → Int32) (VL : own_V) : Prop := (¬ i < 0 ∧ i.toNatClampNeg ≤ L.length) ∧ eL = own_cnt E (L.take i.toNatClampNeg) ∧ VL = own_adds V (L.take i.toNatClampNeg)
def own_I3 (E : Nat → Int32) (L : List Int32) (i : Int32) (eL : Nat → Int32) : Prop := (¬ i < 0 ∧ i.toNatClampNeg ≤ L.length) ∧ eL = own_cnt E (L.take i.toNatClampNeg)
section OwnG
variable {E eL gg : Nat → Int32} {V VL : own_V} {i n nb r : Int32} {L L0 L1 : List Int32} {kA d : Nat}
theorem own_len32 (hl : L.length ≤ 4) : (Int32.ofNat L.length).toInt = L.length := by
  generalize L.length = n at hl
  match n, hl with
  | 0, _ => rfl
  | 1, _ => rfl
  | 2, _ => rfl
  | 3, _ => rfl
  | 4, _ => rfl
theorem own_ilt (hl : L.length ≤ 4) (h0 : ¬ i < 0) (hc : i < Int32.ofNat L.length) : i.toNatClampNeg < L.length ∧ (i + 1).toNatClampNeg = i.toNatClampNeg + 1 ∧ ¬ (i + 1) < 0 := by
  have e := own_succ h0 hc
  rw [Int32.lt_iff_toInt_lt] at h0 hc
  rw [own_len32 hl] at hc
  have k0 : (0 : Int32).toInt = 0 := by decide
  refine ⟨by simp only [Int32.toNatClampNeg]; omega, by simp only [Int32.toNatClampNeg, e]; omega, ?_⟩
  rw [Int32.lt_iff_toInt_lt, e]; omega
theorem own_ige (hl : L.length ≤ 4) (h0 : ¬ i < 0 ∧ i.toNatClampNeg ≤ L.length) (hc : ¬ i < Int32.ofNat L.length) : i.toNatClampNeg = L.length := by
  obtain ⟨h0, h1⟩ := h0
  rw [Int32.lt_iff_toInt_lt] at h0 hc
  rw [own_len32 hl] at hc
  have k0 : (0 : Int32).toInt = 0 := by decide
  simp only [Int32.toNatClampNeg] at h1 ⊢
  omega
theorem own_i16 (hl : L.length ≤ 4) (h0 : ¬ i < 0) (hc : i < Int32.ofNat L.length) : ¬ i < 0 ∧ i < (16 : Int32) := by
  refine ⟨h0, ?_⟩
  rw [Int32.lt_iff_toInt_lt] at hc ⊢
  rw [own_len32 hl] at hc
  have k : (16 : Int32).toInt = 16 := by decide
  omega
theorem own_ib (hl : L.length ≤ 4) (hI : own_I2 E V L i eL VL) (hc : i < Int32.ofNat L.length) : ¬ i < 0 ∧ i < (16 : Int32) := own_i16 hl hI.1.1 hc
theorem own_ib3 (hl : L.length ≤ 4) (hI : own_I3 E L i eL) (hc : i < Int32.ofNat L.length) : ¬ i < 0 ∧ i < (16 : Int32) := own_i16 hl hI.1.1 hc
theorem own_gmem (hl : L.length ≤ 4) (hg : ∀ i, i < L.length → gg i = L.getD i 0) (h0 : ¬ i < 0) (hc : i < Int32.ofNat L.length) : gg i.toNatClampNeg ∈ L := by
  have h := (own_ilt hl h0 hc).1
  rw [hg _ h]; simp [List.getD, h]
theorem own_gi_mem (hl : L.length ≤ 4) (hg : ∀ i, i < L.length → gg i = L.getD i 0) (hI : own_I2 E V L i eL VL) (hc : i < Int32.ofNat L.length) : gg i.toNatClampNeg ∈ L := own_gmem hl hg hI.1.1 hc
theorem own_gi_mem3 (hl : L.length ≤ 4) (hg : ∀ i, i < L.length → gg i = L.getD i 0) (hI : own_I3 E L i eL) (hc : i < Int32.ofNat L.length) : gg i.toNatClampNeg ∈ L := own_gmem hl hg hI.1.1 hc
theorem own_mem0 (hm : ∀ r ∈ L0 ++ L1, own_in r n) (h : r ∈ L0) : ¬ r < 0 ∧ r < n := hm r (List.mem_append_left _ h)
theorem own_mem1 (hm : ∀ r ∈ L0 ++ L1, own_in r n) (h : r ∈ L1) : ¬ r < 0 ∧ r < n := hm r (List.mem_append_right _ h)
theorem own_I20 : own_I2 E V L 0 E V := ⟨⟨by decide, Nat.zero_le _⟩, rfl, rfl⟩
theorem own_I30 (E : Nat → Int32) (L : List Int32) : own_I3 E L 0 E := ⟨⟨by decide, Nat.zero_le _⟩, rfl⟩
theorem own_I2m (hl : L.length ≤ 4) (hI : own_I2 E V L i eL VL) (hc : i < Int32.ofNat L.length) (hk : kA = L.length - i.toNatClampNeg) : L.length - (i + 1).toNatClampNeg < kA := by
  have := own_ilt hl hI.1.1 hc; omega
theorem own_I2m3 (hl : L.length ≤ 4) (hI : own_I3 E L i eL) (hc : i < Int32.ofNat L.length) (hk : kA = L.length - i.toNatClampNeg) : L.length - (i + 1).toNatClampNeg < kA := by
  have := own_ilt hl hI.1.1 hc; omega
theorem own_tk (hl : L.length ≤ 4) (hg : ∀ i, i < L.length → gg i = L.getD i 0) (h0 : ¬ i < 0) (hc : i < Int32.ofNat L.length) : L.take (i + 1).toNatClampNeg = L.take i.toNatClampNeg ++ [gg i.toNatClampNeg] := by
  obtain ⟨h1, h2, -⟩ := own_ilt hl h0 hc
  rw [h2, hg _ h1, List.take_add_one]
  simp [List.getD, h1]
theorem own_cnts (E : Nat → Int32) (P : List Int32) (r : Int32) : own_cnt E (P ++ [r]) = own_set (own_cnt E P) r (own_cnt E P r.toNatClampNeg + 1) := by simp [own_cnt, List.foldl_append]
theorem own_I2k (hl : L.length ≤ 4) (hI : own_I2 E V L i eL VL) (hc : i < Int32.ofNat L.length) (hV : own_VB V d) (hd : d + L.length ≤ 4) : own_VB VL 3 := by
  obtain ⟨q1, q2, q3⟩ := own_ilt hl hI.1.1 hc
  rw [hI.2.2]
  exact own_VBw (own_VBa hV _) (by rw [List.length_take]; omega)
theorem own_I2s (hl : L.length ≤ 4) (hg : ∀ i, i < L.length → gg i = L.getD i 0) (hI : own_I2 E V L i eL VL) (hc : i < Int32.ofNat L.length) : own_I2 E V L (i + 1) (own_set eL (gg i.toNatClampNeg) (eL (gg i.toNatClampNeg).toNatClampNeg + 1)) (own_vad VL (gg i.toNatClampNeg)) := by
  obtain ⟨⟨h0, h1⟩, e1, e2⟩ := hI
  have t := own_tk hl hg h0 hc
  obtain ⟨q1, q2, q3⟩ := own_ilt hl h0 hc
  exact ⟨⟨q3, by omega⟩, by rw [t, own_cnts, e1], by rw [t, own_addS, e2]⟩
theorem own_I2x (hl : L.length ≤ 4) (hI : own_I2 E V L i eL VL) (hc : ¬ i < Int32.ofNat L.length) : eL = own_cnt E L ∧ VL = own_adds V L := by
  have q := own_ige hl hI.1 hc
  obtain ⟨-, e1, e2⟩ := hI
  rw [q, List.take_length] at e1 e2
  exact ⟨e1, e2⟩
theorem own_I3s (hl : L.length ≤ 4) (hg : ∀ i, i < L.length → gg i = L.getD i 0) (hI : own_I3 E L i eL) (hc : i < Int32.ofNat L.length) : own_I3 E L (i + 1) (own_set eL (gg i.toNatClampNeg) (eL (gg i.toNatClampNeg).toNatClampNeg + 1)) := by
  obtain ⟨⟨h0, h1⟩, e1⟩ := hI
  have t := own_tk hl hg h0 hc
  obtain ⟨q1, q2, q3⟩ := own_ilt hl h0 hc
  exact ⟨⟨q3, by omega⟩, by rw [t, own_cnts, e1]⟩
theorem own_I3x (hl : L.length ≤ 4) (hI : own_I3 E L i eL) (hc : ¬ i < Int32.ofNat L.length) : eL = own_cnt E L := by
  have q := own_ige hl hI.1 hc
  have e := hI.2
  rw [q, List.take_length] at e; exact e
def own_tt (a b : Nat) : Int64 := (0 : Int64) + (Int32.ofNat a).toInt64 + (Int32.ofNat b).toInt64
theorem own_ttf : ∀ a : Fin 5, ∀ b : Fin 5, a.1 + b.1 ≤ 4 → ¬ (2147483639 : Int64) < own_tt a.1 b.1 ∧ (own_tt a.1 b.1).toInt32 = Int32.ofNat (a.1 + b.1) ∧ (own_tt a.1 b.1 = 0 ↔ a.1 + b.1 = 0) := by decide +kernel
theorem own_ttl (hl : L0.length + L1.length ≤ 4) : ¬ (2147483639 : Int64) < own_tot (own_tot 0 L0) L1 ∧ (own_tot (own_tot 0 L0) L1).toInt32 = Int32.ofNat (L0 ++ L1).length ∧ (own_tot (own_tot 0 L0) L1 = 0 ↔ L0 ++ L1 = []) := by
  have q := own_ttf ⟨L0.length, by omega⟩ ⟨L1.length, by omega⟩ (by show L0.length + L1.length ≤ 4; omega)
  refine ⟨q.1, by rw [List.length_append]; exact q.2.1, q.2.2.trans ?_⟩
  show L0.length + L1.length = 0 ↔ _
  rw [← List.length_append]; exact List.length_eq_zero_iff
theorem own_totm (hl : L0.length + L1.length ≤ 4) : ¬ (2147483639 : Int64) < own_tot (own_tot 0 L0) L1 := (own_ttl hl).1
theorem own_tot0 (hz : L0 ++ L1 = []) : own_tot (own_tot 0 L0) L1 = 0 := by
  obtain ⟨rfl, rfl⟩ := List.append_eq_nil_iff.mp hz; decide
theorem own_dl (hl : L0.length + L1.length ≤ 4) : ¬ (own_tot (own_tot 0 L0) L1).toInt32 < 0 ∧ (own_tot (own_tot 0 L0) L1).toInt32.toNatClampNeg ≤ 4 := by
  rw [(own_ttl hl).2.1, List.length_append]
  have q := own_no (k := L0.length + L1.length) (by omega)
  exact ⟨q.2.2, by rw [q.2.1]; exact hl⟩
theorem own_VB2 (fi : Nat → Int32) (L0 : List Int32) : own_VB (own_adds (own_v0 fi) L0) L0.length := by
  have := own_VBa (own_VB0 fi) L0; rwa [Nat.zero_add] at this
end OwnG
theorem own_cntv (E : Nat → Int32) (L : List Int32) (j : Nat) : own_cnt E L j = E j + Int32.ofNat (own_ct L j) := by
  induction L generalizing E with
  | nil => show E j = E j + Int32.ofNat 0; rw [show Int32.ofNat 0 = 0 from rfl, Int32.add_zero]
  | cons x xs ih =>
    show own_cnt (own_set E x (E x.toNatClampNeg + 1)) xs j = _
    rw [ih]
    unfold own_ct; rw [own_cpc]
    unfold own_set
    by_cases h : x.toNatClampNeg = j
    · rw [if_pos h.symm, h, if_pos (by simp), ← own_oad, ← Int32.add_assoc]; rfl
    · rw [if_neg (fun q => h q.symm), if_neg (by simpa using h), Nat.zero_add]
/-! the scan of the recipients -/
def own_Sc (M : List Int32) (n : Int32) (c : Nat) (ps : Int32) (eF : Nat → Int32) : Prop :=
  ps = Int32.ofNat (own_bl M c) ∧ ∀ j, j < n.toNatClampNeg → eF j = if j < c then (if own_ct M j = 0 then 0 else Int32.ofNat (own_bl M j)) else Int32.ofNat (own_ct M j)
section OwnS
variable {M L0 L1 : List Int32} {n nb b fr v ps k i : Int32} {eF fF g eL gg : Nat → Int32} {c c' : Nat} {kS : Nat}
theorem own_Sc0 (L0 L1 : List Int32) (n : Int32) : own_Sc (L0 ++ L1) n 0 0 (own_cnt (own_cnt (fun _ => (0 : Int32)) L0) L1) :=
  ⟨by rw [own_bl0]; rfl, fun j hj => by rw [if_neg (Nat.not_lt_zero _), own_cntv, own_cntv, own_cta, Int32.zero_add, own_oad]⟩
theorem own_Sca (h : own_Sc M n c ps eF) (hc : c ≤ c') (hz : ∀ u, c ≤ u → u < c' → own_ct M u = 0) : own_Sc M n c' ps eF := by
  refine ⟨by rw [own_blg hc hz]; exact h.1, fun j hj => ?_⟩
  rw [h.2 j hj]
  by_cases h1 : j < c
  · rw [if_pos h1, if_pos (show j < c' by omega)]
  · rw [if_neg h1]
    by_cases h2 : j < c'
    · rw [if_pos h2, if_pos (hz j (by omega) h2), hz j (by omega) h2]; rfl
    · rw [if_neg h2]
theorem own_Scs {x : Nat} (h : own_Sc M n x ps eF) (hx : x < n.toNatClampNeg) (hn : x < 3072) (h0 : own_ct M x ≠ 0) (hv : v = Int32.ofNat x) : own_Sc M n (x + 1) (ps + eF v.toNatClampNeg) (own_set eF v (own_set fF v ps v.toNatClampNeg)) := by
  subst hv
  have e := (own_no (k := x) (by omega)).2.1
  rw [e]
  refine ⟨by rw [h.1, h.2 x hx, if_neg (Nat.lt_irrefl _), own_oad, own_bls], fun j hj => ?_⟩
  unfold own_set
  rw [e, if_pos rfl, h.1]
  by_cases h1 : j = x
  · rw [if_pos h1, h1, if_pos (show x < x + 1 by omega), if_neg h0]
  · rw [if_neg h1, h.2 j hj]
    by_cases h2 : j < x
    · rw [if_pos h2, if_pos (show j < x + 1 by omega)]
    · rw [if_neg h2, if_neg (show ¬ j < x + 1 by omega)]
def own_SI (M : List Int32) (n b v ps : Int32) (eF : Nat → Int32) : Prop :=
  (v = -1 ∧ own_Sc M n (1024 * (b.toNatClampNeg + 1)) ps eF) ∨ ∃ x, v = Int32.ofNat x ∧ own_ct M x ≠ 0 ∧ x < 3072 ∧ x < n.toNatClampNeg ∧ 1024 * b.toNatClampNeg ≤ x ∧ x < 1024 * (b.toNatClampNeg + 1) ∧ own_Sc M n x ps eF
def own_ms (v : Int32) : Nat := if v < 0 then 0 else 4096 - v.toNatClampNeg
theorem own_ctn (hn : own_nn n nb) (hm : ∀ r ∈ M, own_in r n) {x : Nat} (h : own_ct M x ≠ 0) : x < n.toNatClampNeg ∧ x < 3072 := by
  obtain ⟨r, h1, rfl⟩ := own_ctm.mp h
  have q := own_inN hn (hm r h1)
  exact ⟨q.2.1, q.2.2.1⟩
theorem own_SIr (hn : own_nn n nb) (hm : ∀ r ∈ M, own_in r n) (h : own_nR M b fr v) (hS : own_Sc M n fr.toNatClampNeg ps eF) (h1 : 1024 * b.toNatClampNeg ≤ fr.toNatClampNeg) (h2 : fr.toNatClampNeg ≤ 1024 * (b.toNatClampNeg + 1)) : own_SI M n b v ps eF := by
  rcases h with ⟨e, hz⟩ | ⟨x, e, h0, h3, h4, h5⟩
  · exact Or.inl ⟨e, own_Sca hS h2 hz⟩
  · obtain ⟨q1, q2⟩ := own_ctn hn hm h0
    exact Or.inr ⟨x, e, h0, q2, q1, by omega, h4, own_Sca hS h3 h5⟩
theorem own_SIv (hS : own_SI M n b v ps eF) (hc : ¬ v < 0) : ∃ x, v = Int32.ofNat x ∧ own_ct M x ≠ 0 ∧ x < 3072 ∧ x < n.toNatClampNeg ∧ 1024 * b.toNatClampNeg ≤ x ∧ x < 1024 * (b.toNatClampNeg + 1) ∧ own_Sc M n x ps eF := by
  rcases hS with ⟨e, -⟩ | h
  · exact absurd (by rw [e]; decide) hc
  · exact h
theorem own_SIb (hn : own_nn n nb) (hS : own_SI M n b v ps eF) (hc : ¬ v < 0) : ¬ v < 0 ∧ v < n := by
  obtain ⟨x, rfl, -, h1, h2, -⟩ := own_SIv hS hc
  obtain ⟨a, m, rfl, -, -, q, -, q2, -⟩ := hn
  rw [(own_no (k := a) (by omega)).2.1] at h2
  exact ⟨hc, (own_ofl (by omega) (by omega)).1.mpr h2⟩
/-- what next is asked behind v -/
theorem own_SIp {W : Nat → Int64} (hS : own_SI M n b v ps eF) (hc : ¬ v < 0) (hp : own_np M W nb b (b * 1024)) : own_np M W nb b (v + 1) := by
  obtain ⟨x, rfl, -, h1, h2, h3, h4, -⟩ := own_SIv hS hc
  obtain ⟨hW, m, y, z, rfl, g1, rfl, g2, -⟩ := hp
  rw [(own_no (k := y) (by omega)).2.1] at h3 h4
  exact ⟨hW, m, y, x + 1, rfl, g1, rfl, g2, own_oad x 1, by omega, by omega⟩
theorem own_SIs {v' : Int32} (hn : own_nn n nb) (hm : ∀ r ∈ M, own_in r n) (hS : own_SI M n b v ps eF) (hc : ¬ v < 0) (h : own_nR M b (v + 1) v') : own_SI M n b v' (ps + eF v.toNatClampNeg) (own_set eF v (own_set fF v ps v.toNatClampNeg)) ∧ own_ms v' < own_ms v := by
  obtain ⟨x, rfl, h0, h1, h2, h3, h4, h5⟩ := own_SIv hS hc
  have e : Int32.ofNat x + 1 = Int32.ofNat (x + 1) := own_oad x 1
  have e1 := (own_no (k := x + 1) (by omega)).2.1
  rw [e] at h
  refine ⟨own_SIr hn hm h (by rw [e1]; exact own_Scs h5 h2 h1 h0 rfl) (by rw [e1]; omega) (by rw [e1]; omega), ?_⟩
  unfold own_ms
  rw [if_neg hc, (own_no (k := x) (by omega)).2.1]
  rcases h with ⟨rfl, -⟩ | ⟨y, rfl, q1, q2, -⟩
  · rw [if_pos (by decide)]; omega
  · have := (own_ctn hn hm q1).2
    rw [e1] at q2
    rw [if_neg (own_no (by omega)).2.2, (own_no (k := y) (by omega)).2.1]; omega
/-- the place where the blocks from the i-th on begin -/
def own_c (k : Int32) (g : Nat → Int32) (i : Nat) : Nat := if i < k.toNatClampNeg then 1024 * (g i).toNatClampNeg else 4096
def own_SO (M : List Int32) (n k : Int32) (g : Nat → Int32) (i ps : Int32) (eF : Nat → Int32) : Prop := own_BS M k g ∧ ∃ j : Nat, i = Int32.ofNat j ∧ j ≤ k.toNatClampNeg ∧ own_Sc M n (own_c k g j) ps eF
theorem own_pwf : ∀ Bs ∈ own_b16, own_pw Bs = true → ∀ i : Fin 3, ∀ j : Fin 3, i.1 < Bs.length → j.1 < Bs.length → (i.1 < j.1 ↔ Bs.getD i.1 0 < Bs.getD j.1 0) := by decide +kernel
theorem own_BSk (h : own_BS M k g) : ∃ Bs ∈ own_b16, own_pw Bs = true ∧ k = Int32.ofNat Bs.length ∧ k.toNatClampNeg = Bs.length ∧ Bs.length ≤ 3 ∧ (∀ i, i < Bs.length → (g i).toNatClampNeg = Bs.getD i 0 ∧ g i = Int32.ofNat (Bs.getD i 0) ∧ Bs.getD i 0 ∈ Bs ∧ Bs.getD i 0 < 3) ∧ ∀ x, own_ct M x ≠ 0 → ∃ i, i < Bs.length ∧ x / 1024 = Bs.getD i 0 := by
  obtain ⟨Bs, h1, h2, h3, h4, h5⟩ := h
  obtain ⟨g1, g2, -⟩ := own_b16f Bs h1
  refine ⟨Bs, h1, h2, h3, by rw [h3]; exact (own_no (by omega)).2.1, g1, fun i hi => ?_, fun x hx => ?_⟩
  · have hm : Bs.getD i 0 ∈ Bs := by simp [List.getD, hi]
    have h3 := g2 _ hm
    exact ⟨by rw [h4 i hi]; exact (own_no (by omega)).2.1, h4 i hi, hm, h3⟩
  · obtain ⟨r, hr, rfl⟩ := own_ctm.mp hx
    obtain ⟨i, hi, e⟩ := List.getElem_of_mem ((h5 _).mpr ⟨r, hr, rfl⟩)
    exact ⟨i, hi, by rw [← e]; simp [List.getD, hi]⟩
theorem own_SO0 (hB : own_BS M k g) (h : own_Sc M n 0 ps eF) : own_SO M n k g 0 ps eF := by
  obtain ⟨Bs, h1, h2, h3, h4, h5, h6, h7⟩ := own_BSk hB
  refine ⟨hB, 0, rfl, Nat.zero_le _, own_Sca h (Nat.zero_le _) fun u _ hu => ?_⟩
  apply Classical.byContradiction; intro q
  obtain ⟨i, hi, e⟩ := h7 u q
  unfold own_c at hu
  rw [h4, if_pos (by omega), (h6 0 (by omega)).1] at hu
  have w := own_pwf Bs h1 h2 ⟨i, by omega⟩ ⟨0, by omega⟩ hi (by show 0 < Bs.length; omega)
  exact absurd (w.mpr (show Bs.getD i 0 < Bs.getD 0 0 by omega)) (Nat.not_lt_zero _)
theorem own_SOi (h : own_SO M n k g i ps eF) (hc : i < k) : ¬ i < 0 ∧ i < (16 : Int32) := by
  obtain ⟨hB, j, rfl, h1, -⟩ := h
  obtain ⟨Bs, -, -, h3, h4, h5, -⟩ := own_BSk hB
  exact ⟨(own_no (by omega)).2.2, (own_ofl (a := j) (b := 16) (by omega) (by omega)).1.mpr (by omega)⟩
theorem own_BSb {j : Nat} (hn : own_nn n nb) (hm : ∀ r ∈ M, own_in r n) (hB : own_BS M k g) (hj : j < k.toNatClampNeg) : ∃ m x : Nat, nb = Int32.ofNat m ∧ m ≤ 3 ∧ g j = Int32.ofNat x ∧ x < m ∧ (g j).toNatClampNeg = x := by
  obtain ⟨Bs, h1, -, h3, h4, h5⟩ := hB
  obtain ⟨g1, g2, -⟩ := own_b16f Bs h1
  have hj : j < Bs.length := by rw [h3, (own_no (by omega)).2.1] at hj; exact hj
  have hb : Bs.getD j 0 ∈ Bs := by simp [List.getD, hj]
  have hb3 := g2 _ hb
  obtain ⟨r, hr, e⟩ := (h5 _).mp hb
  have q := own_inN hn (hm r hr)
  obtain ⟨a, m, rfl, rfl, -, -, -, g4, -⟩ := hn
  rw [(own_no (k := m) (by omega)).2.1] at q
  exact ⟨m, Bs.getD j 0, rfl, g4, h4 j hj, by omega, by rw [h4 j hj]; exact (own_no (by omega)).2.1⟩
theorem own_SOb (hn : own_nn n nb) (hm : ∀ r ∈ M, own_in r n) (h : own_SO M n k g i ps eF) (hc : i < k) : ∃ m x : Nat, nb = Int32.ofNat m ∧ m ≤ 3 ∧ g i.toNatClampNeg = Int32.ofNat x ∧ x < m ∧ (g i.toNatClampNeg).toNatClampNeg = x ∧ own_Sc M n (1024 * x) ps eF := by
  obtain ⟨hB, j, rfl, h1, hS⟩ := h
  obtain ⟨Bs, -, -, h3, h4, h5, -⟩ := own_BSk hB
  have hj : j < k.toNatClampNeg := by
    rw [h3] at hc; rw [h4]; exact (own_ofl (by omega) (by omega)).1.mp hc
  rw [(own_no (k := j) (by omega)).2.1]
  obtain ⟨m, x, e1, e2, e3, e4, e5⟩ := own_BSb hn hm hB hj
  refine ⟨m, x, e1, e2, e3, e4, e5, ?_⟩
  unfold own_c at hS; rw [if_pos hj, e5] at hS; exact hS
theorem own_SOp {W : Nat → Int64} (hn : own_nn n nb) (hm : ∀ r ∈ M, own_in r n) (hW : own_Wd M W) (h : own_SO M n k g i ps eF) (hc : i < k) : own_np M W nb (g i.toNatClampNeg) (g i.toNatClampNeg * 1024) := by
  obtain ⟨m, x, e1, e2, e3, e4, e5, -⟩ := own_SOb hn hm h hc
  exact ⟨hW, m, x, 1024 * x, e1, e2, e3, e4, by rw [e3, Nat.mul_comm]; exact own_oml x 1024, by omega, by omega⟩
theorem own_SOn (hn : own_nn n nb) (hm : ∀ r ∈ M, own_in r n) (h : own_SO M n k g i ps eF) (hc : i < k) (hr : own_nR M (g i.toNatClampNeg) (g i.toNatClampNeg * 1024) v) : own_SI M n (g i.toNatClampNeg) v ps eF := by
  obtain ⟨m, x, e1, e2, e3, e4, e5, hS⟩ := own_SOb hn hm h hc
  have e6 : (g i.toNatClampNeg * 1024).toNatClampNeg = 1024 * x := by
    rw [e3, show Int32.ofNat x * 1024 = Int32.ofNat (x * 1024) from own_oml x 1024, (own_no (by omega)).2.1, Nat.mul_comm]
  exact own_SIr hn hm hr (by rw [e6]; exact hS) (by rw [e5, e6]; omega) (by rw [e5, e6]; omega)
/-- the next block -/
theorem own_SOs {ps' : Int32} {eF' : Nat → Int32} (h : own_SO M n k g i ps eF) (hc : i < k) (hS : own_SI M n (g i.toNatClampNeg) v ps' eF') (hv : v < 0) : own_SO M n k g (i + 1) ps' eF' ∧ (8 - (i + 1).toInt).toNat < (8 - i.toInt).toNat := by
  obtain ⟨hB, j, rfl, h1, -⟩ := h
  obtain ⟨Bs, q1, q2, h3, h4, h5, h6, h7⟩ := own_BSk hB
  have hj : j < Bs.length := by
    rw [h3] at hc; exact (own_ofl (by omega) (by omega)).1.mp hc
  have e : Int32.ofNat j + 1 = Int32.ofNat (j + 1) := own_oad j 1
  rw [e, (own_no (k := j) (by omega)).1, (own_no (k := j + 1) (by omega)).1]
  rw [(own_no (k := j) (by omega)).2.1, ] at hS
  refine ⟨⟨hB, j + 1, rfl, by omega, ?_⟩, by omega⟩
  obtain ⟨g1, g2, g3, g4⟩ := h6 j hj
  rcases hS with ⟨-, hS⟩ | ⟨x, rfl, -, hx, -⟩
  · rw [g1] at hS
    refine own_Sca hS ?_ fun u hu hw => ?_
    · unfold own_c; rw [h4]
      split
      · rename_i hq
        rw [(h6 _ hq).1]
        have w := (own_pwf Bs q1 q2 ⟨j, by omega⟩ ⟨j + 1, by omega⟩ hj hq).mp (by show j < j + 1; omega)
        have w : Bs.getD j 0 < Bs.getD (j + 1) 0 := w
        omega
      · omega
    · apply Classical.byContradiction; intro q
      obtain ⟨l, hl, el⟩ := h7 u q
      have w := (own_pwf Bs q1 q2 ⟨j, by omega⟩ ⟨l, by omega⟩ hj hl).mpr (by show Bs.getD j 0 < Bs.getD l 0; omega)
      have w : j < l := w
      unfold own_c at hw
      rw [h4] at hw
      by_cases hq : j + 1 < Bs.length
      · rw [if_pos hq, (h6 _ hq).1] at hw
        by_cases hz : j + 1 = l
        · rw [hz] at hw; omega
        · have w2 := (own_pwf Bs q1 q2 ⟨j + 1, by omega⟩ ⟨l, by omega⟩ hq hl).mp (by show j + 1 < l; omega)
          have w2 : Bs.getD (j + 1) 0 < Bs.getD l 0 := w2
          omega
      · omega
  · exact absurd hv (own_no (by omega)).2.2
theorem own_SOx (h : own_SO M n k g i ps eF) (hc : ¬ i < k) : own_Sc M n 4096 ps eF := by
  obtain ⟨hB, j, rfl, h1, hS⟩ := h
  obtain ⟨Bs, -, -, h3, h4, h5, -⟩ := own_BSk hB
  have hj : ¬ j < k.toNatClampNeg := fun q => hc (by rw [h3]; rw [h4] at q; exact (own_ofl (by omega) (by omega)).1.mpr q)
  unfold own_c at hS; rw [if_neg hj] at hS; exact hS
/-! the places, and the end -/
def own_EEf (M : List Int32) : Nat → Int32 := fun j => if own_ct M j = 0 then 0 else Int32.ofNat (own_bl M (j + 1))
theorem own_nlt (hn : own_nn n nb) : n.toNatClampNeg ≤ 3072 ∧ ¬ n < 0 := by
  obtain ⟨a, m, rfl, rfl, h1, h2, h3, h4, h5⟩ := hn
  rw [(own_no (k := a) (by omega)).2.1]; exact ⟨by omega, (own_no (by omega)).2.2⟩
theorem own_plc {P Q : List Int32} {r : Int32} (hn : own_nn n nb) (hl : L0.length + L1.length ≤ 4) (hS : own_Sc (L0 ++ L1) n 4096 ps eF) (hr : r.toNatClampNeg < n.toNatClampNeg) (e : L0 ++ L1 = P ++ r :: Q) : ¬ own_cnt eF P r.toNatClampNeg < 0 ∧ own_cnt eF P r.toNatClampNeg < (own_tot (own_tot 0 L0) L1).toInt32 := by
  rw [(own_ttl hl).2.1, own_cntv, hS.2 _ hr, if_pos (Nat.lt_of_lt_of_le hr (Nat.le_trans (own_nlt hn).1 (by decide)))]
  have c1 : own_ct (L0 ++ L1) r.toNatClampNeg = own_ct P r.toNatClampNeg + 1 + own_ct Q r.toNatClampNeg := by
    rw [e, own_cta]; unfold own_ct; rw [own_cpc, if_pos (by simp)]; omega
  have c2 := own_ctb (L0 ++ L1) r.toNatClampNeg
  have c3 : (L0 ++ L1).length ≤ 4 := by rw [List.length_append]; exact hl
  rw [if_neg (by omega), own_oad]
  exact ⟨(own_no (by omega)).2.2, (own_ofl (by omega) (by omega)).1.mpr (by omega)⟩
theorem own_spl {L : List Int32} (hl : L.length ≤ 4) (hg : ∀ i, i < L.length → gg i = L.getD i 0) (h0 : ¬ i < 0) (hc : i < Int32.ofNat L.length) : L = L.take i.toNatClampNeg ++ gg i.toNatClampNeg :: L.drop (i.toNatClampNeg + 1) := by
  have q := (own_ilt hl h0 hc).1
  rw [hg _ q]
  have e : L.getD i.toNatClampNeg 0 = L[i.toNatClampNeg] := by simp [List.getD, q]
  rw [e, List.getElem_cons_drop, List.take_append_drop]
theorem own_place0 (hn : own_nn n nb) (hl : L0.length + L1.length ≤ 4) (hm : ∀ r ∈ L0 ++ L1, own_in r n) (hS : own_Sc (L0 ++ L1) n 4096 ps eF)
    (h4 : L0.length ≤ 4) (hg : ∀ i, i < L0.length → gg i = L0.getD i 0) (hI : own_I3 eF L0 i eL) (hi : i < Int32.ofNat L0.length) : ¬ eL (gg i.toNatClampNeg).toNatClampNeg < 0 ∧ eL (gg i.toNatClampNeg).toNatClampNeg < (own_tot (own_tot 0 L0) L1).toInt32 := by
  have r := (own_inN hn (own_mem0 hm (own_gmem h4 hg hI.1.1 hi))).2.1
  rw [hI.2]
  exact own_plc (Q := L0.drop (i.toNatClampNeg + 1) ++ L1) hn hl hS r (by conv => lhs; rw [own_spl h4 hg hI.1.1 hi]
                                                                          simp)
theorem own_place1 (hn : own_nn n nb) (hl : L0.length + L1.length ≤ 4) (hm : ∀ r ∈ L0 ++ L1, own_in r n) (hS : own_Sc (L0 ++ L1) n 4096 ps eF)
    (h4 : L1.length ≤ 4) (hg : ∀ i, i < L1.length → gg i = L1.getD i 0) (hI : own_I3 (own_cnt eF L0) L1 i eL) (hi : i < Int32.ofNat L1.length) : ¬ eL (gg i.toNatClampNeg).toNatClampNeg < 0 ∧ eL (gg i.toNatClampNeg).toNatClampNeg < (own_tot (own_tot 0 L0) L1).toInt32 := by
  have r := (own_inN hn (own_mem1 hm (own_gmem h4 hg hI.1.1 hi))).2.1
  have e : eL = own_cnt eF (L0 ++ L1.take i.toNatClampNeg) := by rw [hI.2]; simp [own_cnt, List.foldl_append]
  rw [e]
  exact own_plc (Q := L1.drop (i.toNatClampNeg + 1)) hn hl hS r (by conv => lhs; rw [own_spl h4 hg hI.1.1 hi]
                                                                    simp)
theorem own_EEx (hn : own_nn n nb) (hS : own_Sc (L0 ++ L1) n 4096 ps eF) : ∀ j, j < n.toNatClampNeg → own_cnt (own_cnt eF L0) L1 j = own_EEf (L0 ++ L1) j := fun j hj => by
  rw [own_cntv, own_cntv, hS.2 j hj, if_pos (Nat.lt_of_lt_of_le hj (Nat.le_trans (own_nlt hn).1 (by decide))), Int32.add_assoc, own_oad, ← own_cta]
  unfold own_EEf
  by_cases h : own_ct (L0 ++ L1) j = 0
  · rw [if_pos h, if_pos h, h]; rfl
  · rw [if_neg h, if_neg h, own_oad, own_bls]
end OwnS

section OwnZ0
variable {M : List Int32} {n nb k i : Int32} {g eF : Nat → Int32} {j : Nat}
theorem own_BSj (hB : own_BS M k g) {j : Nat} (hj : j ≤ k.toNatClampNeg) : j ≤ 3 ∧ (Int32.ofNat j < k ↔ j < k.toNatClampNeg) ∧ k.toNatClampNeg ≤ 3 := by
  obtain ⟨Bs, -, -, h3, h4, h5, -⟩ := own_BSk hB
  refine ⟨by omega, ?_, by omega⟩
  rw [h4, h3]; exact (own_ofl (by omega) (by omega)).1
theorem own_i16B (hB : own_BS M k g) (h : ∃ j : Nat, i = Int32.ofNat j ∧ j ≤ k.toNatClampNeg) : ¬ i < 0 ∧ i < (16 : Int32) := by
  obtain ⟨j, rfl, hj⟩ := h
  have := own_BSj hB hj
  exact ⟨(own_no (by omega)).2.2, (own_ofl (a := j) (b := 16) (by omega) (by omega)).1.mpr (by omega)⟩
theorem own_blk (hn : own_nn n nb) (hm : ∀ r ∈ M, own_in r n) (hB : own_BS M k g) (h : ∃ j : Nat, i = Int32.ofNat j ∧ j ≤ k.toNatClampNeg) (hc : i < k) : ∃ b : Nat, g i.toNatClampNeg = Int32.ofNat b ∧ b < 3 ∧ Int32.ofNat b < nb ∧ i.toNatClampNeg < k.toNatClampNeg := by
  obtain ⟨j, rfl, hj⟩ := h
  obtain ⟨q1, q2, -⟩ := own_BSj hB hj
  have hj := q2.mp hc
  rw [(own_no (k := j) (by omega)).2.1]
  obtain ⟨m, x, rfl, e2, e3, e4, e5⟩ := own_BSb hn hm hB hj
  exact ⟨x, e3, by omega, (own_ofl (by omega) (by omega)).1.mpr e4, hj⟩
def own_CI (M : List Int32) (k : Int32) (g : Nat → Int32) (i : Int32) : Prop := own_BS M k g ∧ ∃ j : Nat, i = Int32.ofNat j ∧ j ≤ k.toNatClampNeg
theorem own_CI0 (hB : own_BS M k g) : own_CI M k g 0 := ⟨hB, 0, rfl, Nat.zero_le _⟩
theorem own_CIs (hn : own_nn n nb) (hm : ∀ r ∈ M, own_in r n) (h : own_CI M k g i) (hc : i < k) : own_CI M k g (i + 1) ∧ (8 - (i + 1).toInt).toNat < (8 - i.toInt).toNat ∧ (¬ i < 0 ∧ i < 16) ∧ own_fb (g i.toNatClampNeg * 16) ((g i.toNatClampNeg + 1) * 16) (nb * 16) ∧ ¬ g i.toNatClampNeg < 0 ∧ g i.toNatClampNeg < nb := by
  obtain ⟨b, e, h3, hb, hj2⟩ := own_blk hn hm h.1 h.2 hc
  have h16 := own_i16B h.1 h.2
  obtain ⟨hB, j, rfl, hj⟩ := h
  obtain ⟨q1, q2, q3⟩ := own_BSj hB hj
  obtain ⟨a, m, rfl, rfl, h1, h2, h3', h4, h5⟩ := hn
  rw [e, show Int32.ofNat j + 1 = Int32.ofNat (j + 1) from own_oad j 1, (own_no (k := j) (by omega)).1, (own_no (k := j + 1) (by omega)).1]
  rw [(own_no (k := j) (by omega)).2.1] at hj2
  have hbm := (own_ofl (by omega) (by omega)).1.mp hb
  refine ⟨⟨hB, j + 1, rfl, by omega⟩, by omega, h16, ?_, (own_no (by omega)).2.2, hb⟩
  rw [own_nE, show Int32.ofNat b * 16 = Int32.ofNat (b * 16) from own_oml b 16, show Int32.ofNat m * 16 = Int32.ofNat (m * 16) from own_oml m 16]
  refine ⟨fun q => ?_, (own_no (by omega)).2.2, fun q => ?_⟩
  · have := (own_ofl (by omega) (by omega)).1.mp q; omega
  · have := (own_ofl (by omega) (by omega)).1.mp q; omega
end OwnZ0
theorem own_s1 {M : List Int32} {V : own_V} (h : ∃ Bs, own_BL M V Bs) (hs : ¬ V.s_ = 0) : V.s_ = 1 := by
  obtain ⟨Bs, -, -, -, -, -, h6⟩ := h
  rw [h6] at hs ⊢
  split
  · rfl
  · rename_i q; rw [if_neg q] at hs; exact absurd rfl hs

theorem own_wS {Z : State} {a0 : Array Value} (hw : ∀ d ∈ tables_1, d.before a0 Z = true) : ∀ a ∈ Bundle.stringAtoms, a.before a0 Z = true := by
  intro a ha
  simp only [Bundle.stringAtoms, Bundle.sN, List.mem_cons, List.not_mem_nil, or_false] at ha
  rcases ha with rfl | rfl | rfl | rfl | rfl | rfl | rfl
  · first | exact (hw _ (List.mem_of_getElem? (i := 10) rfl)) | exact (hw _ (List.mem_of_getElem? (i := 11) rfl)) | exact (hw _ (List.mem_of_getElem? (i := 12) rfl)) | exact (hw _ (List.mem_of_getElem? (i := 13) rfl)) | exact (hw _ (List.mem_of_getElem? (i := 14) rfl)) | exact (hw _ (List.mem_of_getElem? (i := 15) rfl)) | exact (hw _ (List.mem_of_getElem? (i := 16) rfl))
  · first | exact (hw _ (List.mem_of_getElem? (i := 10) rfl)) | exact (hw _ (List.mem_of_getElem? (i := 11) rfl)) | exact (hw _ (List.mem_of_getElem? (i := 12) rfl)) | exact (hw _ (List.mem_of_getElem? (i := 13) rfl)) | exact (hw _ (List.mem_of_getElem? (i := 14) rfl)) | exact (hw _ (List.mem_of_getElem? (i := 15) rfl)) | exact (hw _ (List.mem_of_getElem? (i := 16) rfl))
  · first | exact (hw _ (List.mem_of_getElem? (i := 10) rfl)) | exact (hw _ (List.mem_of_getElem? (i := 11) rfl)) | exact (hw _ (List.mem_of_getElem? (i := 12) rfl)) | exact (hw _ (List.mem_of_getElem? (i := 13) rfl)) | exact (hw _ (List.mem_of_getElem? (i := 14) rfl)) | exact (hw _ (List.mem_of_getElem? (i := 15) rfl)) | exact (hw _ (List.mem_of_getElem? (i := 16) rfl))
  · first | exact (hw _ (List.mem_of_getElem? (i := 10) rfl)) | exact (hw _ (List.mem_of_getElem? (i := 11) rfl)) | exact (hw _ (List.mem_of_getElem? (i := 12) rfl)) | exact (hw _ (List.mem_of_getElem? (i := 13) rfl)) | exact (hw _ (List.mem_of_getElem? (i := 14) rfl)) | exact (hw _ (List.mem_of_getElem? (i := 15) rfl)) | exact (hw _ (List.mem_of_getElem? (i := 16) rfl))
  · first | exact (hw _ (List.mem_of_getElem? (i := 10) rfl)) | exact (hw _ (List.mem_of_getElem? (i := 11) rfl)) | exact (hw _ (List.mem_of_getElem? (i := 12) rfl)) | exact (hw _ (List.mem_of_getElem? (i := 13) rfl)) | exact (hw _ (List.mem_of_getElem? (i := 14) rfl)) | exact (hw _ (List.mem_of_getElem? (i := 15) rfl)) | exact (hw _ (List.mem_of_getElem? (i := 16) rfl))
  · first | exact (hw _ (List.mem_of_getElem? (i := 10) rfl)) | exact (hw _ (List.mem_of_getElem? (i := 11) rfl)) | exact (hw _ (List.mem_of_getElem? (i := 12) rfl)) | exact (hw _ (List.mem_of_getElem? (i := 13) rfl)) | exact (hw _ (List.mem_of_getElem? (i := 14) rfl)) | exact (hw _ (List.mem_of_getElem? (i := 15) rfl)) | exact (hw _ (List.mem_of_getElem? (i := 16) rfl))
  · first | exact (hw _ (List.mem_of_getElem? (i := 10) rfl)) | exact (hw _ (List.mem_of_getElem? (i := 11) rfl)) | exact (hw _ (List.mem_of_getElem? (i := 12) rfl)) | exact (hw _ (List.mem_of_getElem? (i := 13) rfl)) | exact (hw _ (List.mem_of_getElem? (i := 14) rfl)) | exact (hw _ (List.mem_of_getElem? (i := 15) rfl)) | exact (hw _ (List.mem_of_getElem? (i := 16) rfl))
def own_EL : List (String × Nat) := []
abbrev oC0 : String := "com/example/lockstep/lockstep/engine/AddressedMessages"
abbrev oC1 : String := "com/example/lockstep/lockstep/engine/VertexSet"
abbrev oC2 : String := "com/example/lockstep/lockstep/engine/AddressedMessages$Outbox"
abbrev oC3 : String := "com/example/lockstep/lockstep/engine/IndexList"
abbrev oC4 : String := "[Lcom/example/lockstep/lockstep/engine/AddressedMessages$Outbox;"
abbrev oC5 : String := "Lcom/example/lockstep/lockstep/engine/IndexList;"
abbrev oC6 : String := "Lcom/example/lockstep/lockstep/engine/VertexSet;"
abbrev oC7 : String := "com/example/lockstep/lockstep/engine/AddressedMessagesEndPinLaw"
abbrev oC8 : String := "Lcom/example/lockstep/lockstep/engine/AddressedMessages;"
abbrev oC9 : String := "com/example/lockstep/lockstep/engine/Engine"
abbrev oC10 : String := "java/util/DualPivotQuicksort"
abbrev oC11 : String := "java/util/Arrays"
abbrev oC12 : String := "Ljava/lang/String;"
abbrev oC13 : String := "java/lang/String"
theorem oW {Z : State} {a0 : Array Value} {d : Jvm.Cond} (hw : ∀ d ∈ tables_1, d.before a0 Z = true) (i : Nat) (h : tables_1[i]? = some d) : d.before a0 Z = true := hw _ (List.mem_of_getElem? h)
abbrev oM0 : MethodName := ⟨"com/example/lockstep/lockstep/engine/Engine", "blockCount", "(I)I"⟩
abbrev oM1 : MethodName := ⟨"java/lang/Math", "min", "(JJ)J"⟩
abbrev oM2 : MethodName := ⟨"com/example/lockstep/lockstep/engine/Engine", "blockEnd", "(II)I"⟩
abbrev oM3 : MethodName := ⟨"java/lang/Integer", "numberOfTrailingZeros", "(I)I"⟩
abbrev oM4 : MethodName := ⟨"java/lang/Long", "numberOfTrailingZeros", "(J)I"⟩
abbrev oM5 : MethodName := ⟨"com/example/lockstep/lockstep/engine/IndexList", "<init>", "()V"⟩
abbrev oM6 : MethodName := ⟨"com/example/lockstep/lockstep/engine/IndexList", "size", "()I"⟩
abbrev oM7 : MethodName := ⟨"com/example/lockstep/lockstep/engine/IndexList", "get", "(I)I"⟩
abbrev oM8 : MethodName := ⟨"com/example/lockstep/lockstep/engine/IndexList", "clear", "()V"⟩
abbrev oM9 : MethodName := ⟨"com/example/lockstep/lockstep/engine/IndexList", "add", "(I)V"⟩
abbrev oM10 : MethodName := ⟨"com/example/lockstep/lockstep/engine/VertexSet", "<init>", "(I)V"⟩
abbrev oM11 : MethodName := ⟨"com/example/lockstep/lockstep/engine/VertexSet", "blockCount", "()I"⟩
abbrev oM12 : MethodName := ⟨"com/example/lockstep/lockstep/engine/VertexSet", "block", "(I)I"⟩
abbrev oM13 : MethodName := ⟨"java/util/Arrays", "rangeCheck", "(III)V"⟩
abbrev oM14 : MethodName := ⟨"java/util/Arrays", "fill", "([IIII)V"⟩
abbrev oM15 : MethodName := ⟨"java/util/Arrays", "fill", "([JIIJ)V"⟩
abbrev oM16 : MethodName := ⟨"com/example/lockstep/lockstep/engine/VertexSet", "clear", "()V"⟩
abbrev oM17 : MethodName := ⟨"com/example/lockstep/lockstep/engine/VertexSet", "hold", "(I)V"⟩
abbrev oM18 : MethodName := ⟨"com/example/lockstep/lockstep/engine/VertexSet", "add", "(I)V"⟩
abbrev oM19 : MethodName := ⟨"java/util/DualPivotQuicksort", "insertionSort", "([III)V"⟩
abbrev oM20 : MethodName := ⟨"java/util/DualPivotQuicksort", "sort", "(Ljava/util/DualPivotQuicksort$Sorter;[IIII)V"⟩
abbrev oM21 : MethodName := ⟨"java/util/DualPivotQuicksort", "sort", "([IIII)V"⟩
abbrev oM22 : MethodName := ⟨"java/util/Arrays", "sort", "([III)V"⟩
abbrev oM23 : MethodName := ⟨"com/example/lockstep/lockstep/engine/IndexList", "sort", "()V"⟩
abbrev oM24 : MethodName := ⟨"com/example/lockstep/lockstep/engine/VertexSet", "sort", "()V"⟩
abbrev oM25 : MethodName := ⟨"com/example/lockstep/lockstep/engine/VertexSet", "next", "(II)I"⟩
abbrev oM26 : MethodName := ⟨"com/example/lockstep/lockstep/engine/AddressedMessages$Outbox", "<init>", "(Lcom/example/lockstep/lockstep/engine/AddressedMessages;)V"⟩
abbrev oM27 : MethodName := ⟨"com/example/lockstep/lockstep/engine/AddressedMessages$Outbox", "add", "(IIJ)V"⟩
abbrev oM28 : MethodName := ⟨"com/example/lockstep/lockstep/engine/AddressedMessagesEndPinLaw", "recv", "(JII)I"⟩
abbrev oM29 : MethodName := ⟨"com/example/lockstep/lockstep/engine/AddressedMessagesEndPinLaw", "countIf", "(ZZ)I"⟩
abbrev oM30 : MethodName := ⟨"com/example/lockstep/lockstep/engine/AddressedMessages", "send", "(IIIJ)V"⟩
abbrev oM31 : MethodName := ⟨"com/example/lockstep/lockstep/engine/AddressedMessages", "deliver", "(I)Z"⟩
abbrev oM32 : MethodName := ⟨"com/example/lockstep/lockstep/engine/AddressedMessages", "end", "(I)I"⟩
abbrev oM33 : MethodName := ⟨"com/example/lockstep/lockstep/engine/AddressedMessages", "<init>", "(IILjava/lang/String;)V"⟩
abbrev oD0 : ByteArray := prog_22_method_11_code
abbrev oD1 : ByteArray := jdk_29_method_70_code
abbrev oD2 : ByteArray := prog_22_method_12_code
abbrev oD3 : ByteArray := jdk_33_method_48_code
abbrev oD4 : ByteArray := jdk_35_method_49_code
abbrev oD5 : ByteArray := prog_26_method_1_code
abbrev oD6 : ByteArray := prog_26_method_3_code
abbrev oD7 : ByteArray := prog_26_method_4_code
abbrev oD8 : ByteArray := prog_26_method_7_code
abbrev oD9 : ByteArray := prog_26_method_2_code
abbrev oD10 : ByteArray := prog_49_method_1_code
abbrev oD11 : ByteArray := prog_49_method_6_code
abbrev oD12 : ByteArray := prog_49_method_7_code
abbrev oD13 : ByteArray := jdk_65_method_30_code
abbrev oD14 : ByteArray := jdk_65_method_104_code
abbrev oD15 : ByteArray := jdk_65_method_102_code
abbrev oD16 : ByteArray := prog_49_method_9_code
abbrev oD17 : ByteArray := prog_49_method_4_code
abbrev oD18 : ByteArray := prog_49_method_2_code
abbrev oD19 : ByteArray := jdk_2529_method_6_code
abbrev oD20 : ByteArray := jdk_2529_method_4_code
abbrev oD21 : ByteArray := jdk_2529_method_3_code
abbrev oD22 : ByteArray := jdk_65_method_3_code
abbrev oD23 : ByteArray := prog_26_method_5_code
abbrev oD24 : ByteArray := prog_49_method_5_code
abbrev oD25 : ByteArray := prog_49_method_8_code
abbrev oD26 : ByteArray := prog_19_method_1_code
abbrev oD27 : ByteArray := prog_19_method_2_code
abbrev oD28 : ByteArray := method_2_code
abbrev oD29 : ByteArray := method_3_code
abbrev oD30 : ByteArray := prog_18_method_2_code
abbrev oD31 : ByteArray := prog_18_method_9_code
abbrev oD32 : ByteArray := prog_18_method_4_code
abbrev oD33 : ByteArray := prog_18_method_1_code
abbrev oQ (c : ByteArray) (p : Nat) (i : Instr) (n : Nat) : Prop := decode c p = .ok (i, n)
abbrev oH (Z : State) (a0 : Array Value) : Prop := ∀ d ∈ tables_1, d.before a0 Z = true
abbrev oO (Z : State) (C n d : String) : Nat := Jvm.RoadKit.slotOf Z C n d
abbrev oI (x : Int32) : Slot := .val (.int x)
abbrev oJ (x : Int64) : Slot := .val (.long x)
abbrev oR (x : Addr) : Slot := .val (.ref x)
abbrev oU : Slot := .unset
abbrev oS : Slot := .second
abbrev oF {tb : Tables} {e : Env} {below : List Frame} {s : State} {Q : Option Value → Heap → List Loc → Prop} {k n : Nat} (t : State) : Prop := own_Fin tb e below s Q k n t
abbrev oG {Z : State} {EL : List (String × Nat)} {tb : Tables} {e : Env} {below : List Frame} {s : State} {Q : Option Value → Heap → List Loc → Prop} {k n : Nat} (t : State) : Prop := own_FinW Z EL tb e below s Q k n t
theorem d4_0 : oQ oD0 0 (.iload_n 0) 1 := by decide +kernel
theorem d4_1 : oQ oD0 1 (.sipush 1024) 3 := by decide +kernel
theorem d4_4 : oQ oD0 4 .iadd 1 := by decide +kernel
theorem d4_5 : oQ oD0 5 (.iconst 1) 1 := by decide +kernel
theorem d4_6 : oQ oD0 6 .isub 1 := by decide +kernel
theorem d4_7 : oQ oD0 7 (.sipush 1024) 3 := by decide +kernel
theorem d4_10 : oQ oD0 10 .idiv 1 := by decide +kernel
theorem d4_11 : oQ oD0 11 .ireturn 1 := by decide +kernel
theorem pn_4 : plainName oC9 = true := by first | (simp [plainName, overriddenIn]; done) | decide +kernel
theorem ef_4 (m : MethodId) (p0 : Int32) : entryFrame m #[(.int p0)] 1 = mkF m 0 #[oI p0] [] := by first | (simp [entryFrame, mkF, argsToLocals, Value.category]; done) | rfl
def own_rm4_room : Room := { frames := 0, cells := 0, slots := 0, locals := 0 }
def own_f4 (p0 : Int32) : Int32 := (((p0 + (1024 : Int32)) - (1 : Int32)) / (1024 : Int32))
theorem own_lf_own_f4_1 {p0 : Int32} : (some (.int (((p0 + (1024 : Int32)) - (1 : Int32)) / (1024 : Int32))) : Option Value) = some (.int (own_f4 p0)) := by
  first | rfl | (simp only [own_f4]; done) | (simp only [own_f4]; rfl)
set_option maxRecDepth 65536 in
set_option maxHeartbeats 40000000 in
theorem rm4 (l : Launch) (Z : State) (a0 : Array Value) (hw : oH Z a0) (ws : List Jvm.Cond) (p0 : Int32) (h0 : Heap) (n0 : Nat) (Z0 : n0 ≤ h0.size) :
    MetFree l oM0 (head1 (Jvm.Cond.code oM0 prog_22_method_11_code 1 (some .int) :: ws) own_rm4_room) (fun a U => a = #[(.int p0)] ∧ Z.Warmed39 U.vm ∧ U.heap = h0) (fun _ _ _ _ _ => True) (fun _ U o U' => ∃ v L, o = .returned v ∧ own_QP (some (.int (own_f4 p0))) h0 n0 v U'.heap L ∧ FrameEnd U o U' L own_rm4_room.cells own_rm4_room.slots) := by
 refine MetFree.of_bodySF (plainFor_of_name pn_4) hisR ?_
 intro p e s m args below meth c s₁ Bd hml0 hP hK
 obtain ⟨rfl, hZ, hh⟩ := hP
 have hx := Bd.exec
 have hby := Bd.bytes
 have hml : c.maxLocals = 1 := hml0
 have hown : s.vm.findClass oC9 = some m.cls := findClass_of_methodNamed Bd.named
 have hnm := (name_of_methodNamed Bd.named Bd.method).1
 have hlk : meth.locks = false := BodyLoose.notSynchronized Bd
 have X0 : Stand p l e own_rm4_room s m #[(.int p0)] below meth c s₁ [] 0 0 := Stand.of_body Bd
 have e0 : s₁.heap = h0 := by rw [← hh, Bd.state]; rfl
 have N0 := Fr.nil n0
 show own_Fin p.tables e below s (own_QP (some (.int (own_f4 p0))) h0 n0) own_rm4_room.cells own_rm4_room.slots (s₁.setTop (entryFrame m #[(.int p0)] 1))
 rw [ef_4]
 show oF (s₁.setTop (mkF m 0 #[oI p0] []))
 refine own_go (fun _ k => XS.iloadN X0.here hx rfl (hb hby d4_0) rfl (XS.sipush X0.here hx rfl (hb hby d4_1) (XS.iadd X0.here hx rfl (hb hby d4_4) rfl (XS.iconst X0.here hx rfl (hb hby d4_5) (XS.isub X0.here hx rfl (hb hby d4_6) rfl (XS.sipush X0.here hx rfl (hb hby d4_7) (XS.idiv X0.here hx rfl (hb hby d4_10) rfl (by decide) k))))))) ?_
 refine own_ret X0 hx hlk Bd.returns rfl (Or.inl ⟨rfl, by simp, _, rfl⟩) (hb hby d4_11) (Nat.le_of_ble_eq_true rfl) (Nat.le_of_ble_eq_true rfl) ?_
 exact ⟨(own_lf_own_f4_1 (p0 := p0)), N0, e0⟩
theorem d27_0 : oQ oD1 0 (.lload_n 0) 1 := by decide +kernel
theorem d27_1 : oQ oD1 1 (.lload_n 2) 1 := by decide +kernel
theorem d27_2 : oQ oD1 2 .lcmp 1 := by decide +kernel
theorem d27_3 : oQ oD1 3 (.ifCond .gt 7) 3 := by decide +kernel
theorem d27_6 : oQ oD1 6 (.lload_n 0) 1 := by decide +kernel
theorem d27_7 : oQ oD1 7 (.goto 4) 3 := by decide +kernel
theorem d27_10 : oQ oD1 10 (.lload_n 2) 1 := by decide +kernel
theorem d27_11 : oQ oD1 11 .lreturn 1 := by decide +kernel
theorem ef_27 (m : MethodId) (q0 : Int64) (q1 : Int64) : entryFrame m #[(.long q0), (.long q1)] 4 = mkF m 0 #[oJ q0, oS, oJ q1, oS] [] := by first | (simp [entryFrame, mkF, argsToLocals, Value.category]; done) | rfl
def own_rm27_room : Room := { frames := 0, cells := 0, slots := 0, locals := 0 }
def own_f27 (q0 : Int64) (q1 : Int64) : Int64 := (if q1 < q0 then (q1) else (q0))
theorem own_lf_own_f27_1 {q0 : Int64} {q1 : Int64} (hc1 : q1 < q0) : (some (.long q1) : Option Value) = some (.long (own_f27 q0 q1)) := by
  first | (simp only [own_f27, if_pos hc1]; done) | (simp only [own_f27, if_pos hc1]; rfl) | rfl
theorem own_lf_own_f27_2 {q0 : Int64} {q1 : Int64} (hc1 : ¬ (q1 < q0)) : (some (.long q0) : Option Value) = some (.long (own_f27 q0 q1)) := by
  first | (simp only [own_f27, if_neg hc1]; done) | (simp only [own_f27, if_neg hc1]; rfl) | rfl
set_option maxRecDepth 65536 in
set_option maxHeartbeats 40000000 in
theorem rm27 (l : Launch) (Z : State) (a0 : Array Value) (hw : oH Z a0) (ws : List Jvm.Cond) (q0 : Int64) (q1 : Int64) (h0 : Heap) (n0 : Nat) (Z0 : n0 ≤ h0.size) :
    MetFree l oM1 (head1 (Jvm.Cond.code oM1 jdk_29_method_70_code 4 (some .long) :: ws) own_rm27_room) (fun a U => a = #[(.long q0), (.long q1)] ∧ Z.Warmed39 U.vm ∧ U.heap = h0) (fun _ _ _ _ _ => True) (fun _ U o U' => ∃ v L, o = .returned v ∧ own_QP (some (.long (own_f27 q0 q1))) h0 n0 v U'.heap L ∧ FrameEnd U o U' L own_rm27_room.cells own_rm27_room.slots) := by
 refine MetFree.of_bodySF (Jvm.Free.JP.mathPlain rfl (by decide +kernel)) hisR ?_
 intro p e s m args below meth c s₁ Bd hml0 hP hK
 obtain ⟨rfl, hZ, hh⟩ := hP
 have hx := Bd.exec
 have hby := Bd.bytes
 have hml : c.maxLocals = 4 := hml0
 have hown : s.vm.findClass "java/lang/Math" = some m.cls := findClass_of_methodNamed Bd.named
 have hnm := (name_of_methodNamed Bd.named Bd.method).1
 have hlk : meth.locks = false := BodyLoose.notSynchronized Bd
 have X0 : Stand p l e own_rm27_room s m #[(.long q0), (.long q1)] below meth c s₁ [] 0 0 := Stand.of_body Bd
 have e0 : s₁.heap = h0 := by rw [← hh, Bd.state]; rfl
 have N0 := Fr.nil n0
 show own_Fin p.tables e below s (own_QP (some (.long (own_f27 q0 q1))) h0 n0) own_rm27_room.cells own_rm27_room.slots (s₁.setTop (entryFrame m #[(.long q0), (.long q1)] 4))
 rw [ef_27]
 show oF (s₁.setTop (mkF m 0 #[oJ q0, oS, oJ q1, oS] []))
 refine own_go (fun _ k => XS.lloadN X0.here hx rfl (hb hby d27_0) rfl (XS.lloadN X0.here hx rfl (hb hby d27_1) rfl (XS.lcmp X0.here hx rfl (hb hby d27_2) rfl k))) ?_
 show oF (s₁.setTop (mkF m 3 #[oJ q0, oS, oJ q1, oS] [(.int (lcmpW q0 q1))]))
 by_cases hc1 : q1 < q0
 ·refine own_go (fun _ k => XS.ifYes X0.here hx rfl (pc0 := 3) (pc' := 10) rfl (hb hby d27_3) rfl ((if0 _ _).trans (tlt ((lw_gt _ _).mpr hc1)).2.2.1) (by decide) (by decide) (XS.lloadN X0.here hx rfl (hb hby d27_10) rfl k)) ?_
  refine own_ret X0 hx hlk Bd.returns rfl (Or.inr (Or.inl ⟨rfl, rfl, _, rfl⟩)) (hb hby d27_11) (Nat.le_of_ble_eq_true rfl) (Nat.le_of_ble_eq_true rfl) ?_
  exact ⟨(own_lf_own_f27_1 (q0 := q0) (q1 := q1) hc1), N0, e0⟩
 ·refine own_go (fun _ k => XS.ifNo X0.here hx rfl (hb hby d27_3) rfl ((if0 _ _).trans (flt (mt (lw_gt _ _).mp hc1)).2.2.1) (XS.lloadN X0.here hx rfl (hb hby d27_6) rfl (XS.goto X0.here hx rfl (pc0 := 7) (pc' := 11) rfl (hb hby d27_7) (by decide) (by decide) k))) ?_
  refine own_ret X0 hx hlk Bd.returns rfl (Or.inr (Or.inl ⟨rfl, rfl, _, rfl⟩)) (hb hby d27_11) (Nat.le_of_ble_eq_true rfl) (Nat.le_of_ble_eq_true rfl) ?_
  exact ⟨(own_lf_own_f27_2 (q0 := q0) (q1 := q1) hc1), N0, e0⟩
theorem own_pd20 : parseMethodDescriptor "(JJ)J" = some ⟨[.long, .long], some .long⟩ := by decide +kernel
theorem d26_0 : oQ oD2 0 (.iload_n 1) 1 := by decide +kernel
theorem d26_1 : oQ oD2 1 .i2l 1 := by decide +kernel
theorem d26_2 : oQ oD2 2 (.iload_n 0) 1 := by decide +kernel
theorem d26_3 : oQ oD2 3 (.iconst 1) 1 := by decide +kernel
theorem d26_4 : oQ oD2 4 .iadd 1 := by decide +kernel
theorem d26_5 : oQ oD2 5 .i2l 1 := by decide +kernel
theorem d26_6 : oQ oD2 6 (.ldc2_w 401) 3 := by decide +kernel
theorem d26_9 : oQ oD2 9 .lmul 1 := by decide +kernel
theorem d26_10 : oQ oD2 10 (.invokestatic 403) 3 := by decide +kernel
theorem d26_13 : oQ oD2 13 .l2i 1 := by decide +kernel
theorem d26_14 : oQ oD2 14 .ireturn 1 := by decide +kernel
theorem pn_26 : plainName oC9 = true := by first | (simp [plainName, overriddenIn]; done) | decide +kernel
theorem ef_26 (m : MethodId) (p0 : Int32) (p1 : Int32) : entryFrame m #[(.int p0), (.int p1)] 2 = mkF m 0 #[oI p0, oI p1] [] := by first | (simp [entryFrame, mkF, argsToLocals, Value.category]; done) | rfl
def own_rm26_room : Room := { frames := 1, cells := 0, slots := 0, locals := 15 }
def own_f26 (p0 : Int32) (p1 : Int32) : Int32 := ((own_f27 (p1.toInt64) (((p0 + (1 : Int32)).toInt64) * (1024 : Int64))).toInt32)
theorem own_lf_own_f26_1 {p0 : Int32} {p1 : Int32} : (some (.int ((own_f27 (p1.toInt64) (((p0 + (1 : Int32)).toInt64) * (1024 : Int64))).toInt32)) : Option Value) = some (.int (own_f26 p0 p1)) := by
  first | rfl | (simp only [own_f26]; done) | (simp only [own_f26]; rfl)
set_option maxRecDepth 65536 in
set_option maxHeartbeats 40000000 in
theorem rm26 (l : Launch) (Z : State) (a0 : Array Value) (hw : oH Z a0) (ws : List Jvm.Cond) (p0 : Int32) (p1 : Int32) (h0 : Heap) (n0 : Nat) (Z0 : n0 ≤ h0.size) :
    MetFree l oM2 (head1 (Jvm.Cond.code oM2 prog_22_method_12_code 2 (some .int) :: ws) own_rm26_room) (fun a U => a = #[(.int p0), (.int p1)] ∧ Z.Warmed39 U.vm ∧ U.heap = h0) (fun _ _ _ _ _ => True) (fun _ U o U' => ∃ v L, o = .returned v ∧ own_QP (some (.int (own_f26 p0 p1))) h0 n0 v U'.heap L ∧ FrameEnd U o U' L own_rm26_room.cells own_rm26_room.slots) := by
 refine MetFree.of_bodySF (plainFor_of_name pn_26) hisR ?_
 intro p e s m args below meth c s₁ Bd hml0 hP hK
 obtain ⟨rfl, hZ, hh⟩ := hP
 have hx := Bd.exec
 have hby := Bd.bytes
 have hml : c.maxLocals = 2 := hml0
 have hown : s.vm.findClass oC9 = some m.cls := findClass_of_methodNamed Bd.named
 have hnm := (name_of_methodNamed Bd.named Bd.method).1
 have hlk : meth.locks = false := BodyLoose.notSynchronized Bd
 have X0 : Stand p l e own_rm26_room s m #[(.int p0), (.int p1)] below meth c s₁ [] 0 0 := Stand.of_body Bd
 have e0 : s₁.heap = h0 := by rw [← hh, Bd.state]; rfl
 have N0 := Fr.nil n0
 show own_Fin p.tables e below s (own_QP (some (.int (own_f26 p0 p1))) h0 n0) own_rm26_room.cells own_rm26_room.slots (s₁.setTop (entryFrame m #[(.int p0), (.int p1)] 2))
 rw [ef_26]
 show oF (s₁.setTop (mkF m 0 #[oI p0, oI p1] []))
 refine own_go (fun _ k => XS.iloadN X0.here hx rfl (hb hby d26_0) rfl (XS.i2l X0.here hx rfl (hb hby d26_1) rfl k)) ?_
 show oF (s₁.setTop (mkF m 2 #[oI p0, oI p1] [(.long (p1.toInt64))]))
 refine own_go (fun _ k => XS.iloadN X0.here hx rfl (hb hby d26_2) rfl (XS.iconst X0.here hx rfl (hb hby d26_3) (XS.iadd X0.here hx rfl (hb hby d26_4) rfl (XS.i2l X0.here hx rfl (hb hby d26_5) rfl k)))) ?_
 show oF (s₁.setTop (mkF m 6 #[oI p0, oI p1] [(.long ((p0 + (1 : Int32)).toInt64)), (.long (p1.toInt64))]))
 refine own_go (fun _ k => X0.ldc2Long hx hown (mvT hZ (oW hw 187 rfl)) (g := (mkF m 6 #[oI p0, oI p1] [(.long ((p0 + (1 : Int32)).toInt64)), (.long (p1.toInt64))])) rfl (hb hby d26_6) _ k) ?_
 refine own_go (fun _ k => XS.lmul X0.here hx rfl (hb hby d26_9) rfl k) ?_
 have cq := Jvm.LawKit.callS X0 hx (y := oM1) hown (mvT hZ (oW hw 188 rfl)) (mvT hZ (oW hw 189 rfl)) (mvT hZ (oW hw 190 rfl)) (mvT hZ (oW hw 191 rfl)) (by decide) (backOf (W := 0) (rm27 l Z a0 hw [] (p1.toInt64) (((p0 + (1 : Int32)).toInt64) * (1024 : Int64)) h0 n0 Z0) hZ (oW hw 191 rfl) (oW hw 190 rfl) (by decide) (by decide)) (g := (mkF m 10 #[oI p0, oI p1] [(.long (((p0 + (1 : Int32)).toInt64) * (1024 : Int64))), (.long (p1.toInt64))])) rfl (by rw [hml]; rfl) (argsL := [(.long (p1.toInt64)), (.long (((p0 + (1 : Int32)).toInt64) * (1024 : Int64)))]) (rest := []) (lenOf own_pd20 rfl) rfl (by show 2 * 0 + _ ≤ _; exact Nat.le_of_eq rfl) (hb hby d26_10) (fun _ _ => ⟨rfl, e0, (by decide : 0 + 0 ≤ _), (by decide : 0 + 0 ≤ _)⟩)
 obtain ⟨_, _, ⟨T1, L1, k1, n1⟩, -, X1, ⟨Lc1, hQ1, l1, y1, z1⟩, st1⟩ := cq
 dsimp only [Pt.U, Pt.locs, Pt.cells, Pt.slots] at X1 l1 y1 z1 st1 hQ1
 replace y1 : 0 = k1 := y1.symm
 replace z1 : 0 = n1 := z1.symm
 subst y1 z1
 obtain ⟨rfl, N1q, e1⟩ := hQ1
 have N1 : Fr n0 L1 := by rw [l1]; exact Fr.app N0 N1q
 refine own_go (fun tg k => st1 tg k) ?_
 show oF (T1.setTop (mkF m 13 #[oI p0, oI p1] [(.long (own_f27 (p1.toInt64) (((p0 + (1 : Int32)).toInt64) * (1024 : Int64))))]))
 refine own_go (fun _ k => XS.l2i X1.here hx rfl (hb hby d26_13) rfl k) ?_
 show oF (T1.setTop (mkF m 14 #[oI p0, oI p1] [(.int ((own_f27 (p1.toInt64) (((p0 + (1 : Int32)).toInt64) * (1024 : Int64))).toInt32))]))
 refine own_ret X1 hx hlk Bd.returns rfl (Or.inl ⟨rfl, by simp, _, rfl⟩) (hb hby d26_14) (Nat.le_of_ble_eq_true rfl) (Nat.le_of_ble_eq_true rfl) ?_
 exact ⟨(own_lf_own_f26_1 (p0 := p0) (p1 := p1)), N1, e1⟩
theorem d24_0 : oQ oD3 0 (.iload_n 0) 1 := by decide +kernel
theorem d24_1 : oQ oD3 1 (.iconst (-1)) 1 := by decide +kernel
theorem d24_2 : oQ oD3 2 .ixor 1 := by decide +kernel
theorem d24_3 : oQ oD3 3 (.iload_n 0) 1 := by decide +kernel
theorem d24_4 : oQ oD3 4 (.iconst 1) 1 := by decide +kernel
theorem d24_5 : oQ oD3 5 .isub 1 := by decide +kernel
theorem d24_6 : oQ oD3 6 .iand 1 := by decide +kernel
theorem d24_7 : oQ oD3 7 (.istore_n 0) 1 := by decide +kernel
theorem d24_8 : oQ oD3 8 (.iload_n 0) 1 := by decide +kernel
theorem d24_9 : oQ oD3 9 (.ifCond .gt 8) 3 := by decide +kernel
theorem d24_12 : oQ oD3 12 (.iload_n 0) 1 := by decide +kernel
theorem d24_13 : oQ oD3 13 (.bipush 32) 2 := by decide +kernel
theorem d24_15 : oQ oD3 15 .iand 1 := by decide +kernel
theorem d24_16 : oQ oD3 16 .ireturn 1 := by decide +kernel
theorem d24_17 : oQ oD3 17 (.iconst 1) 1 := by decide +kernel
theorem d24_18 : oQ oD3 18 (.istore_n 1) 1 := by decide +kernel
theorem d24_19 : oQ oD3 19 (.iload_n 0) 1 := by decide +kernel
theorem d24_20 : oQ oD3 20 (.ldc_w 264) 3 := by decide +kernel
theorem d24_23 : oQ oD3 23 (.if_icmp .le 11) 3 := by decide +kernel
theorem d24_26 : oQ oD3 26 (.iinc 1 16) 3 := by decide +kernel
theorem d24_29 : oQ oD3 29 (.iload_n 0) 1 := by decide +kernel
theorem d24_30 : oQ oD3 30 (.bipush 16) 2 := by decide +kernel
theorem d24_32 : oQ oD3 32 .iushr 1 := by decide +kernel
theorem d24_33 : oQ oD3 33 (.istore_n 0) 1 := by decide +kernel
theorem d24_34 : oQ oD3 34 (.iload_n 0) 1 := by decide +kernel
theorem d24_35 : oQ oD3 35 (.sipush 256) 3 := by decide +kernel
theorem d24_38 : oQ oD3 38 (.if_icmp .le 11) 3 := by decide +kernel
theorem d24_41 : oQ oD3 41 (.iinc 1 8) 3 := by decide +kernel
theorem d24_44 : oQ oD3 44 (.iload_n 0) 1 := by decide +kernel
theorem d24_45 : oQ oD3 45 (.bipush 8) 2 := by decide +kernel
theorem d24_47 : oQ oD3 47 .iushr 1 := by decide +kernel
theorem d24_48 : oQ oD3 48 (.istore_n 0) 1 := by decide +kernel
theorem d24_49 : oQ oD3 49 (.iload_n 0) 1 := by decide +kernel
theorem d24_50 : oQ oD3 50 (.bipush 16) 2 := by decide +kernel
theorem d24_52 : oQ oD3 52 (.if_icmp .le 10) 3 := by decide +kernel
theorem d24_55 : oQ oD3 55 (.iinc 1 4) 3 := by decide +kernel
theorem d24_58 : oQ oD3 58 (.iload_n 0) 1 := by decide +kernel
theorem d24_59 : oQ oD3 59 (.iconst 4) 1 := by decide +kernel
theorem d24_60 : oQ oD3 60 .iushr 1 := by decide +kernel
theorem d24_61 : oQ oD3 61 (.istore_n 0) 1 := by decide +kernel
theorem d24_62 : oQ oD3 62 (.iload_n 0) 1 := by decide +kernel
theorem d24_63 : oQ oD3 63 (.iconst 4) 1 := by decide +kernel
theorem d24_64 : oQ oD3 64 (.if_icmp .le 10) 3 := by decide +kernel
theorem d24_67 : oQ oD3 67 (.iinc 1 2) 3 := by decide +kernel
theorem d24_70 : oQ oD3 70 (.iload_n 0) 1 := by decide +kernel
theorem d24_71 : oQ oD3 71 (.iconst 2) 1 := by decide +kernel
theorem d24_72 : oQ oD3 72 .iushr 1 := by decide +kernel
theorem d24_73 : oQ oD3 73 (.istore_n 0) 1 := by decide +kernel
theorem d24_74 : oQ oD3 74 (.iload_n 1) 1 := by decide +kernel
theorem d24_75 : oQ oD3 75 (.iload_n 0) 1 := by decide +kernel
theorem d24_76 : oQ oD3 76 (.iconst 1) 1 := by decide +kernel
theorem d24_77 : oQ oD3 77 .iushr 1 := by decide +kernel
theorem d24_78 : oQ oD3 78 .iadd 1 := by decide +kernel
theorem d24_79 : oQ oD3 79 .ireturn 1 := by decide +kernel
theorem pn_24 : plainName "java/lang/Integer" = true := by first | (simp [plainName, overriddenIn]; done) | decide +kernel
theorem ef_24 (m : MethodId) (p0 : Int32) : entryFrame m #[(.int p0)] 2 = mkF m 0 #[oI p0, oU] [] := by first | (simp [entryFrame, mkF, argsToLocals, Value.category]; done) | rfl
def own_rm24_room : Room := { frames := 0, cells := 0, slots := 0, locals := 0 }
def own_f24 (p0 : Int32) : Int32 := let z1 := ((p0 ^^^ (-1 : Int32)) &&& (p0 - (1 : Int32))); (if (0 : Int32) < z1 then (let z6 := (if (65536 : Int32) < z1 then (own_iushr z1 (16 : Int32)) else z1); let z7 := (if (65536 : Int32) < z1 then (17 : Int32) else (1 : Int32)); let z11 := (if (256 : Int32) < z6 then (own_iushr z6 (8 : Int32)) else z6); let z12 := (if (256 : Int32) < z6 then (z7 + (8 : Int32)) else z7); let z16 := (if (16 : Int32) < z11 then (own_iushr z11 (4 : Int32)) else z11); let z17 := (if (16 : Int32) < z11 then (z12 + (4 : Int32)) else z12); let z21 := (if (4 : Int32) < z16 then (own_iushr z16 (2 : Int32)) else z16); let z22 := (if (4 : Int32) < z16 then (z17 + (2 : Int32)) else z17); (z22 + (own_iushr z21 (1 : Int32)))) else ((z1 &&& (32 : Int32))))
theorem own_lf_own_f24_1 {p0 : Int32} {z1 : Int32} {z6 : Int32} {z7 : Int32} {z11 : Int32} {z12 : Int32} {z16 : Int32} {z17 : Int32} {z21 : Int32} {z22 : Int32} (hz1 : ((p0 ^^^ (-1 : Int32)) &&& (p0 - (1 : Int32))) = z1) (hz6 : (if (65536 : Int32) < z1 then (own_iushr z1 (16 : Int32)) else z1) = z6) (hz7 : (if (65536 : Int32) < z1 then (17 : Int32) else (1 : Int32)) = z7) (hz11 : (if (256 : Int32) < z6 then (own_iushr z6 (8 : Int32)) else z6) = z11) (hz12 : (if (256 : Int32) < z6 then (z7 + (8 : Int32)) else z7) = z12) (hz16 : (if (16 : Int32) < z11 then (own_iushr z11 (4 : Int32)) else z11) = z16) (hz17 : (if (16 : Int32) < z11 then (z12 + (4 : Int32)) else z12) = z17) (hz21 : (if (4 : Int32) < z16 then (own_iushr z16 (2 : Int32)) else z16) = z21) (hz22 : (if (4 : Int32) < z16 then (z17 + (2 : Int32)) else z17) = z22) (hc2 : (0 : Int32) < z1) : (some (.int (z22 + (own_iushr z21 (1 : Int32)))) : Option Value) = some (.int (own_f24 p0)) := by
  subst hz22
  subst hz21
  subst hz17
  subst hz16
  subst hz12
  subst hz11
  subst hz7
  subst hz6
  subst hz1
  first | (simp only [own_f24, if_pos hc2]; done) | (simp only [own_f24, if_pos hc2]; rfl) | rfl
theorem own_lf_own_f24_2 {p0 : Int32} {z1 : Int32} (hz1 : ((p0 ^^^ (-1 : Int32)) &&& (p0 - (1 : Int32))) = z1) (hc2 : ¬ ((0 : Int32) < z1)) : (some (.int (z1 &&& (32 : Int32))) : Option Value) = some (.int (own_f24 p0)) := by
  subst hz1
  first | (simp only [own_f24, if_neg hc2]; done) | (simp only [own_f24, if_neg hc2]; rfl) | rfl
set_option maxRecDepth 65536 in
set_option maxHeartbeats 40000000 in
theorem rm24 (l : Launch) (Z : State) (a0 : Array Value) (hw : oH Z a0) (ws : List Jvm.Cond) (p0 : Int32) (h0 : Heap) (n0 : Nat) (Z0 : n0 ≤ h0.size) :
    MetFree l oM3 (head1 (Jvm.Cond.code oM3 jdk_33_method_48_code 2 (some .int) :: ws) own_rm24_room) (fun a U => a = #[(.int p0)] ∧ Z.Warmed39 U.vm ∧ U.heap = h0) (fun _ _ _ _ _ => True) (fun _ U o U' => ∃ v L, o = .returned v ∧ own_QP (some (.int (own_f24 p0))) h0 n0 v U'.heap L ∧ FrameEnd U o U' L own_rm24_room.cells own_rm24_room.slots) := by
 refine MetFree.of_bodySF (plainFor_of_name pn_24) hisR ?_
 intro p e s m args below meth c s₁ Bd hml0 hP hK
 obtain ⟨rfl, hZ, hh⟩ := hP
 have hx := Bd.exec
 have hby := Bd.bytes
 have hml : c.maxLocals = 2 := hml0
 have hown : s.vm.findClass "java/lang/Integer" = some m.cls := findClass_of_methodNamed Bd.named
 have hnm := (name_of_methodNamed Bd.named Bd.method).1
 have hlk : meth.locks = false := BodyLoose.notSynchronized Bd
 have X0 : Stand p l e own_rm24_room s m #[(.int p0)] below meth c s₁ [] 0 0 := Stand.of_body Bd
 have e0 : s₁.heap = h0 := by rw [← hh, Bd.state]; rfl
 have N0 := Fr.nil n0
 show own_Fin p.tables e below s (own_QP (some (.int (own_f24 p0))) h0 n0) own_rm24_room.cells own_rm24_room.slots (s₁.setTop (entryFrame m #[(.int p0)] 2))
 rw [ef_24]
 show oF (s₁.setTop (mkF m 0 #[oI p0, oU] []))
 refine own_go (fun _ k => XS.iloadN X0.here hx rfl (hb hby d24_0) rfl (XS.iconst X0.here hx rfl (hb hby d24_1) (XS.ixor X0.here hx rfl (hb hby d24_2) rfl (XS.iloadN X0.here hx rfl (hb hby d24_3) rfl (XS.iconst X0.here hx rfl (hb hby d24_4) (XS.isub X0.here hx rfl (hb hby d24_5) rfl (XS.iand X0.here hx rfl (hb hby d24_6) rfl (XS.istoreN X0.here hx rfl (hb hby d24_7) rfl (l' := #[.val (.int ((p0 ^^^ (-1 : Int32)) &&& (p0 - (1 : Int32)))), oU]) rfl k)))))))) ?_
 show oF (s₁.setTop (mkF m 8 #[.val (.int ((p0 ^^^ (-1 : Int32)) &&& (p0 - (1 : Int32)))), oU] []))
 generalize hz1 : ((p0 ^^^ (-1 : Int32)) &&& (p0 - (1 : Int32))) = z1
 show oF (s₁.setTop (mkF m 8 #[oI z1, oU] []))
 refine own_go (fun _ k => XS.iloadN X0.here hx rfl (hb hby d24_8) rfl k) ?_
 by_cases hc2 : (0 : Int32) < z1
 ·refine own_go (fun _ k => XS.ifYes X0.here hx rfl (pc0 := 9) (pc' := 17) rfl (hb hby d24_9) rfl ((if0 _ _).trans (tlt hc2).2.2.1) (by decide) (by decide) (XS.iconst X0.here hx rfl (hb hby d24_17) (XS.istoreN X0.here hx rfl (hb hby d24_18) rfl (l' := #[oI z1, oI 1]) rfl (XS.iloadN X0.here hx rfl (hb hby d24_19) rfl k)))) ?_
  refine own_go (fun _ k => X0.ldcwInt hx hown (mvT hZ (oW hw 202 rfl)) (g := (mkF m 20 #[oI z1, oI 1] [(.int z1)])) rfl (hb hby d24_20) _ k) ?_
  have hk4 : ∀ (T' : State) (L' : List Loc), Stand p l e own_rm24_room s m #[(.int p0)] below meth c T' L' 0 0 → Fr n0 L' → T'.heap = h0 → own_Fin p.tables e below s (own_QP (some (.int (own_f24 p0))) h0 n0) own_rm24_room.cells own_rm24_room.slots (T'.setTop (mkF m 34 #[.val (.int (if (65536 : Int32) < z1 then (own_iushr z1 (16 : Int32)) else z1)), .val (.int (if (65536 : Int32) < z1 then (17 : Int32) else (1 : Int32)))] [])) := by
   intro T5 L5 X5 N5 e5
   generalize hz6 : (if (65536 : Int32) < z1 then (own_iushr z1 (16 : Int32)) else z1) = z6
   generalize hz7 : (if (65536 : Int32) < z1 then (17 : Int32) else (1 : Int32)) = z7
   show oF (T5.setTop (mkF m 34 #[oI z6, oI z7] []))
   refine own_go (fun _ k => XS.iloadN X5.here hx rfl (hb hby d24_34) rfl (XS.sipush X5.here hx rfl (hb hby d24_35) k)) ?_
   have hk9 : ∀ (T' : State) (L' : List Loc), Stand p l e own_rm24_room s m #[(.int p0)] below meth c T' L' 0 0 → Fr n0 L' → T'.heap = h0 → own_Fin p.tables e below s (own_QP (some (.int (own_f24 p0))) h0 n0) own_rm24_room.cells own_rm24_room.slots (T'.setTop (mkF m 49 #[.val (.int (if (256 : Int32) < z6 then (own_iushr z6 (8 : Int32)) else z6)), .val (.int (if (256 : Int32) < z6 then (z7 + (8 : Int32)) else z7))] [])) := by
    intro T10 L10 X10 N10 e10
    generalize hz11 : (if (256 : Int32) < z6 then (own_iushr z6 (8 : Int32)) else z6) = z11
    generalize hz12 : (if (256 : Int32) < z6 then (z7 + (8 : Int32)) else z7) = z12
    show oF (T10.setTop (mkF m 49 #[oI z11, oI z12] []))
    refine own_go (fun _ k => XS.iloadN X10.here hx rfl (hb hby d24_49) rfl (XS.bipush X10.here hx rfl (hb hby d24_50) k)) ?_
    have hk14 : ∀ (T' : State) (L' : List Loc), Stand p l e own_rm24_room s m #[(.int p0)] below meth c T' L' 0 0 → Fr n0 L' → T'.heap = h0 → own_Fin p.tables e below s (own_QP (some (.int (own_f24 p0))) h0 n0) own_rm24_room.cells own_rm24_room.slots (T'.setTop (mkF m 62 #[.val (.int (if (16 : Int32) < z11 then (own_iushr z11 (4 : Int32)) else z11)), .val (.int (if (16 : Int32) < z11 then (z12 + (4 : Int32)) else z12))] [])) := by
     intro T15 L15 X15 N15 e15
     generalize hz16 : (if (16 : Int32) < z11 then (own_iushr z11 (4 : Int32)) else z11) = z16
     generalize hz17 : (if (16 : Int32) < z11 then (z12 + (4 : Int32)) else z12) = z17
     show oF (T15.setTop (mkF m 62 #[oI z16, oI z17] []))
     refine own_go (fun _ k => XS.iloadN X15.here hx rfl (hb hby d24_62) rfl (XS.iconst X15.here hx rfl (hb hby d24_63) k)) ?_
     have hk19 : ∀ (T' : State) (L' : List Loc), Stand p l e own_rm24_room s m #[(.int p0)] below meth c T' L' 0 0 → Fr n0 L' → T'.heap = h0 → own_Fin p.tables e below s (own_QP (some (.int (own_f24 p0))) h0 n0) own_rm24_room.cells own_rm24_room.slots (T'.setTop (mkF m 74 #[.val (.int (if (4 : Int32) < z16 then (own_iushr z16 (2 : Int32)) else z16)), .val (.int (if (4 : Int32) < z16 then (z17 + (2 : Int32)) else z17))] [])) := by
      intro T20 L20 X20 N20 e20
      generalize hz21 : (if (4 : Int32) < z16 then (own_iushr z16 (2 : Int32)) else z16) = z21
      generalize hz22 : (if (4 : Int32) < z16 then (z17 + (2 : Int32)) else z17) = z22
      show oF (T20.setTop (mkF m 74 #[oI z21, oI z22] []))
      refine own_go (fun _ k => XS.iloadN X20.here hx rfl (hb hby d24_74) rfl (XS.iloadN X20.here hx rfl (hb hby d24_75) rfl (XS.iconst X20.here hx rfl (hb hby d24_76) (XS.iushr X20.here hx rfl (hb hby d24_77) rfl k)))) ?_
      show oF (T20.setTop (mkF m 78 #[oI z21, oI z22] [(.int (own_iushr z21 (1 : Int32))), (.int z22)]))
      refine own_go (fun _ k => XS.iadd X20.here hx rfl (hb hby d24_78) rfl k) ?_
      refine own_ret X20 hx hlk Bd.returns rfl (Or.inl ⟨rfl, by simp, _, rfl⟩) (hb hby d24_79) (Nat.le_of_ble_eq_true rfl) (Nat.le_of_ble_eq_true rfl) ?_
      exact ⟨(own_lf_own_f24_1 (p0 := p0) hz1 hz6 hz7 hz11 hz12 hz16 hz17 hz21 hz22 hc2), N20, e20⟩
     by_cases hc18 : (4 : Int32) < z16
     ·refine own_go (fun _ k => XS.icmpNo X15.here hx rfl (hb hby d24_64) rfl (tlt hc18).2.2.2 (XS.iinc X15.here hx rfl (hb hby d24_67) rfl (l' := #[oI z16, .val (.int (z17 + (2 : Int32)))]) rfl (XS.iloadN X15.here hx rfl (hb hby d24_70) rfl (XS.iconst X15.here hx rfl (hb hby d24_71) (XS.iushr X15.here hx rfl (hb hby d24_72) rfl k))))) ?_
      show oF (T15.setTop (mkF m 73 #[oI z16, .val (.int (z17 + (2 : Int32)))] [(.int (own_iushr z16 (2 : Int32)))]))
      refine own_go (fun _ k => XS.istoreN X15.here hx rfl (hb hby d24_73) rfl (l' := #[.val (.int (own_iushr z16 (2 : Int32))), .val (.int (z17 + (2 : Int32)))]) rfl k) ?_
      show oF (T15.setTop (mkF m 74 #[.val (.int (own_iushr z16 (2 : Int32))), .val (.int (z17 + (2 : Int32)))] []))
      have kj := hk19 T15 _ (own_mono X15 (by decide) (by decide)) N15 e15
      simpa only [if_pos hc18] using kj
     ·refine own_go (fun _ k => XS.icmpYes X15.here hx rfl (pc0 := 64) (pc' := 74) rfl (hb hby d24_64) rfl (flt hc18).2.2.2 (by decide) (by decide) k) ?_
      show oF (T15.setTop (mkF m 74 #[oI z16, oI z17] []))
      have kj := hk19 T15 _ (own_mono X15 (by decide) (by decide)) N15 e15
      simpa only [if_neg hc18] using kj
    by_cases hc13 : (16 : Int32) < z11
    ·refine own_go (fun _ k => XS.icmpNo X10.here hx rfl (hb hby d24_52) rfl (tlt hc13).2.2.2 (XS.iinc X10.here hx rfl (hb hby d24_55) rfl (l' := #[oI z11, .val (.int (z12 + (4 : Int32)))]) rfl (XS.iloadN X10.here hx rfl (hb hby d24_58) rfl (XS.iconst X10.here hx rfl (hb hby d24_59) (XS.iushr X10.here hx rfl (hb hby d24_60) rfl k))))) ?_
     show oF (T10.setTop (mkF m 61 #[oI z11, .val (.int (z12 + (4 : Int32)))] [(.int (own_iushr z11 (4 : Int32)))]))
     refine own_go (fun _ k => XS.istoreN X10.here hx rfl (hb hby d24_61) rfl (l' := #[.val (.int (own_iushr z11 (4 : Int32))), .val (.int (z12 + (4 : Int32)))]) rfl k) ?_
     show oF (T10.setTop (mkF m 62 #[.val (.int (own_iushr z11 (4 : Int32))), .val (.int (z12 + (4 : Int32)))] []))
     have kj := hk14 T10 _ (own_mono X10 (by decide) (by decide)) N10 e10
     simpa only [if_pos hc13] using kj
    ·refine own_go (fun _ k => XS.icmpYes X10.here hx rfl (pc0 := 52) (pc' := 62) rfl (hb hby d24_52) rfl (flt hc13).2.2.2 (by decide) (by decide) k) ?_
     show oF (T10.setTop (mkF m 62 #[oI z11, oI z12] []))
     have kj := hk14 T10 _ (own_mono X10 (by decide) (by decide)) N10 e10
     simpa only [if_neg hc13] using kj
   by_cases hc8 : (256 : Int32) < z6
   ·refine own_go (fun _ k => XS.icmpNo X5.here hx rfl (hb hby d24_38) rfl (tlt hc8).2.2.2 (XS.iinc X5.here hx rfl (hb hby d24_41) rfl (l' := #[oI z6, .val (.int (z7 + (8 : Int32)))]) rfl (XS.iloadN X5.here hx rfl (hb hby d24_44) rfl (XS.bipush X5.here hx rfl (hb hby d24_45) (XS.iushr X5.here hx rfl (hb hby d24_47) rfl k))))) ?_
    show oF (T5.setTop (mkF m 48 #[oI z6, .val (.int (z7 + (8 : Int32)))] [(.int (own_iushr z6 (8 : Int32)))]))
    refine own_go (fun _ k => XS.istoreN X5.here hx rfl (hb hby d24_48) rfl (l' := #[.val (.int (own_iushr z6 (8 : Int32))), .val (.int (z7 + (8 : Int32)))]) rfl k) ?_
    show oF (T5.setTop (mkF m 49 #[.val (.int (own_iushr z6 (8 : Int32))), .val (.int (z7 + (8 : Int32)))] []))
    have kj := hk9 T5 _ (own_mono X5 (by decide) (by decide)) N5 e5
    simpa only [if_pos hc8] using kj
   ·refine own_go (fun _ k => XS.icmpYes X5.here hx rfl (pc0 := 38) (pc' := 49) rfl (hb hby d24_38) rfl (flt hc8).2.2.2 (by decide) (by decide) k) ?_
    show oF (T5.setTop (mkF m 49 #[oI z6, oI z7] []))
    have kj := hk9 T5 _ (own_mono X5 (by decide) (by decide)) N5 e5
    simpa only [if_neg hc8] using kj
  by_cases hc3 : (65536 : Int32) < z1
  ·refine own_go (fun _ k => XS.icmpNo X0.here hx rfl (hb hby d24_23) rfl (tlt hc3).2.2.2 (XS.iinc X0.here hx rfl (hb hby d24_26) rfl (l' := #[oI z1, oI 17]) rfl k)) ?_
   show oF (s₁.setTop (mkF m 29 #[oI z1, oI 17] []))
   refine own_go (fun _ k => XS.iloadN X0.here hx rfl (hb hby d24_29) rfl (XS.bipush X0.here hx rfl (hb hby d24_30) (XS.iushr X0.here hx rfl (hb hby d24_32) rfl k))) ?_
   show oF (s₁.setTop (mkF m 33 #[oI z1, oI 17] [(.int (own_iushr z1 (16 : Int32)))]))
   refine own_go (fun _ k => XS.istoreN X0.here hx rfl (hb hby d24_33) rfl (l' := #[.val (.int (own_iushr z1 (16 : Int32))), oI 17]) rfl k) ?_
   show oF (s₁.setTop (mkF m 34 #[.val (.int (own_iushr z1 (16 : Int32))), oI 17] []))
   have kj := hk4 s₁ _ (own_mono X0 (by decide) (by decide)) N0 e0
   simpa only [if_pos hc3] using kj
  ·refine own_go (fun _ k => XS.icmpYes X0.here hx rfl (pc0 := 23) (pc' := 34) rfl (hb hby d24_23) rfl (flt hc3).2.2.2 (by decide) (by decide) k) ?_
   show oF (s₁.setTop (mkF m 34 #[oI z1, oI 1] []))
   have kj := hk4 s₁ _ (own_mono X0 (by decide) (by decide)) N0 e0
   simpa only [if_neg hc3] using kj
 ·refine own_go (fun _ k => XS.ifNo X0.here hx rfl (hb hby d24_9) rfl ((if0 _ _).trans (flt hc2).2.2.1) (XS.iloadN X0.here hx rfl (hb hby d24_12) rfl (XS.bipush X0.here hx rfl (hb hby d24_13) (XS.iand X0.here hx rfl (hb hby d24_15) rfl k)))) ?_
  refine own_ret X0 hx hlk Bd.returns rfl (Or.inl ⟨rfl, by simp, _, rfl⟩) (hb hby d24_16) (Nat.le_of_ble_eq_true rfl) (Nat.le_of_ble_eq_true rfl) ?_
  exact ⟨(own_lf_own_f24_2 (p0 := p0) hz1 hc2), N0, e0⟩
theorem own_pd90 : parseMethodDescriptor "(I)I" = some ⟨[.int], some .int⟩ := by decide +kernel
theorem d23_0 : oQ oD4 0 (.lload_n 0) 1 := by decide +kernel
theorem d23_1 : oQ oD4 1 .l2i 1 := by decide +kernel
theorem d23_2 : oQ oD4 2 (.istore_n 2) 1 := by decide +kernel
theorem d23_3 : oQ oD4 3 (.iload_n 2) 1 := by decide +kernel
theorem d23_4 : oQ oD4 4 (.ifCond .ne 17) 3 := by decide +kernel
theorem d23_7 : oQ oD4 7 (.bipush 32) 2 := by decide +kernel
theorem d23_9 : oQ oD4 9 (.lload_n 0) 1 := by decide +kernel
theorem d23_10 : oQ oD4 10 (.bipush 32) 2 := by decide +kernel
theorem d23_12 : oQ oD4 12 .lushr 1 := by decide +kernel
theorem d23_13 : oQ oD4 13 .l2i 1 := by decide +kernel
theorem d23_14 : oQ oD4 14 (.invokestatic 311) 3 := by decide +kernel
theorem d23_17 : oQ oD4 17 .iadd 1 := by decide +kernel
theorem d23_18 : oQ oD4 18 (.goto 7) 3 := by decide +kernel
theorem d23_21 : oQ oD4 21 (.iload_n 2) 1 := by decide +kernel
theorem d23_22 : oQ oD4 22 (.invokestatic 311) 3 := by decide +kernel
theorem d23_25 : oQ oD4 25 .ireturn 1 := by decide +kernel
theorem pn_23 : plainName "java/lang/Long" = true := by first | (simp [plainName, overriddenIn]; done) | decide +kernel
theorem ef_23 (m : MethodId) (q0 : Int64) : entryFrame m #[(.long q0)] 3 = mkF m 0 #[oJ q0, oS, oU] [] := by first | (simp [entryFrame, mkF, argsToLocals, Value.category]; done) | rfl
def own_rm23_room : Room := { frames := 1, cells := 0, slots := 0, locals := 14 }
def own_f23 (q0 : Int64) : Int32 := (if (q0.toInt32) = (0 : Int32) then (((32 : Int32) + (own_f24 ((own_lushr q0 (32 : Int32)).toInt32)))) else ((own_f24 (q0.toInt32))))
theorem own_lf_own_f23_1 {q0 : Int64} (hc1 : (q0.toInt32) = (0 : Int32)) : (some (.int ((32 : Int32) + (own_f24 ((own_lushr q0 (32 : Int32)).toInt32)))) : Option Value) = some (.int (own_f23 q0)) := by
  first | (simp only [own_f23, if_pos hc1]; done) | (simp only [own_f23, if_pos hc1]; rfl) | rfl
theorem own_lf_own_f23_2 {q0 : Int64} (hc1 : ¬ ((q0.toInt32) = (0 : Int32))) : (some (.int (own_f24 (q0.toInt32))) : Option Value) = some (.int (own_f23 q0)) := by
  first | (simp only [own_f23, if_neg hc1]; done) | (simp only [own_f23, if_neg hc1]; rfl) | rfl
set_option maxRecDepth 65536 in
set_option maxHeartbeats 40000000 in
theorem rm23 (l : Launch) (Z : State) (a0 : Array Value) (hw : oH Z a0) (ws : List Jvm.Cond) (q0 : Int64) (h0 : Heap) (n0 : Nat) (Z0 : n0 ≤ h0.size) :
    MetFree l oM4 (head1 (Jvm.Cond.code oM4 jdk_35_method_49_code 3 (some .int) :: ws) own_rm23_room) (fun a U => a = #[(.long q0)] ∧ Z.Warmed39 U.vm ∧ U.heap = h0) (fun _ _ _ _ _ => True) (fun _ U o U' => ∃ v L, o = .returned v ∧ own_QP (some (.int (own_f23 q0))) h0 n0 v U'.heap L ∧ FrameEnd U o U' L own_rm23_room.cells own_rm23_room.slots) := by
 refine MetFree.of_bodySF (plainFor_of_name pn_23) hisR ?_
 intro p e s m args below meth c s₁ Bd hml0 hP hK
 obtain ⟨rfl, hZ, hh⟩ := hP
 have hx := Bd.exec
 have hby := Bd.bytes
 have hml : c.maxLocals = 3 := hml0
 have hown : s.vm.findClass "java/lang/Long" = some m.cls := findClass_of_methodNamed Bd.named
 have hnm := (name_of_methodNamed Bd.named Bd.method).1
 have hlk : meth.locks = false := BodyLoose.notSynchronized Bd
 have X0 : Stand p l e own_rm23_room s m #[(.long q0)] below meth c s₁ [] 0 0 := Stand.of_body Bd
 have e0 : s₁.heap = h0 := by rw [← hh, Bd.state]; rfl
 have N0 := Fr.nil n0
 show own_Fin p.tables e below s (own_QP (some (.int (own_f23 q0))) h0 n0) own_rm23_room.cells own_rm23_room.slots (s₁.setTop (entryFrame m #[(.long q0)] 3))
 rw [ef_23]
 show oF (s₁.setTop (mkF m 0 #[oJ q0, oS, oU] []))
 refine own_go (fun _ k => XS.lloadN X0.here hx rfl (hb hby d23_0) rfl (XS.l2i X0.here hx rfl (hb hby d23_1) rfl k)) ?_
 show oF (s₁.setTop (mkF m 2 #[oJ q0, oS, oU] [(.int (q0.toInt32))]))
 refine own_go (fun _ k => XS.istoreN X0.here hx rfl (hb hby d23_2) rfl (l' := #[oJ q0, oS, .val (.int (q0.toInt32))]) rfl (XS.iloadN X0.here hx rfl (hb hby d23_3) rfl k)) ?_
 by_cases hc1 : (q0.toInt32) = (0 : Int32)
 ·refine own_go (fun _ k => XS.ifNo X0.here hx rfl (hb hby d23_4) rfl ((if0 _ _).trans (teq hc1).2) (XS.bipush X0.here hx rfl (hb hby d23_7) (XS.lloadN X0.here hx rfl (hb hby d23_9) rfl (XS.bipush X0.here hx rfl (hb hby d23_10) (XS.lushr X0.here hx rfl (hb hby d23_12) rfl k))))) ?_
  show oF (s₁.setTop (mkF m 13 #[oJ q0, oS, .val (.int (q0.toInt32))] [(.long (own_lushr q0 (32 : Int32))), (.int 32)]))
  refine own_go (fun _ k => XS.l2i X0.here hx rfl (hb hby d23_13) rfl k) ?_
  show oF (s₁.setTop (mkF m 14 #[oJ q0, oS, .val (.int (q0.toInt32))] [(.int ((own_lushr q0 (32 : Int32)).toInt32)), (.int 32)]))
  have cq := Jvm.LawKit.callS X0 hx (y := oM3) hown (mvT hZ (oW hw 175 rfl)) (mvT hZ (oW hw 176 rfl)) (mvT hZ (oW hw 177 rfl)) (mvT hZ (oW hw 178 rfl)) (by decide) (backOf (W := 1) (rm24 l Z a0 hw [] ((own_lushr q0 (32 : Int32)).toInt32) h0 n0 Z0) hZ (oW hw 178 rfl) (oW hw 177 rfl) (by decide) (by decide)) (g := (mkF m 14 #[oJ q0, oS, .val (.int (q0.toInt32))] [(.int ((own_lushr q0 (32 : Int32)).toInt32)), (.int 32)])) rfl (by rw [hml]; rfl) (argsL := [(.int ((own_lushr q0 (32 : Int32)).toInt32))]) (rest := [(.int 32)]) (lenOf own_pd90 rfl) rfl (by show 2 * 0 + _ ≤ _; exact Nat.le_of_eq rfl) (hb hby d23_14) (fun _ _ => ⟨rfl, e0, (by decide : 0 + 0 ≤ _), (by decide : 0 + 0 ≤ _)⟩)
  obtain ⟨_, _, ⟨T2, L2, k2, n2⟩, -, X2, ⟨Lc2, hQ2, l2, y2, z2⟩, st2⟩ := cq
  dsimp only [Pt.U, Pt.locs, Pt.cells, Pt.slots] at X2 l2 y2 z2 st2 hQ2
  replace y2 : 0 = k2 := y2.symm
  replace z2 : 0 = n2 := z2.symm
  subst y2 z2
  obtain ⟨rfl, N2q, e2⟩ := hQ2
  have N2 : Fr n0 L2 := by rw [l2]; exact Fr.app N0 N2q
  refine own_go (fun tg k => st2 tg k) ?_
  show oF (T2.setTop (mkF m 17 #[oJ q0, oS, .val (.int (q0.toInt32))] [(.int (own_f24 ((own_lushr q0 (32 : Int32)).toInt32))), (.int 32)]))
  refine own_go (fun _ k => XS.iadd X2.here hx rfl (hb hby d23_17) rfl (XS.goto X2.here hx rfl (pc0 := 18) (pc' := 25) rfl (hb hby d23_18) (by decide) (by decide) k)) ?_
  refine own_ret X2 hx hlk Bd.returns rfl (Or.inl ⟨rfl, by simp, _, rfl⟩) (hb hby d23_25) (Nat.le_of_ble_eq_true rfl) (Nat.le_of_ble_eq_true rfl) ?_
  exact ⟨(own_lf_own_f23_1 (q0 := q0) hc1), N2, e2⟩
 ·refine own_go (fun _ k => XS.ifYes X0.here hx rfl (pc0 := 4) (pc' := 21) rfl (hb hby d23_4) rfl ((if0 _ _).trans (feq hc1).2) (by decide) (by decide) (XS.iloadN X0.here hx rfl (hb hby d23_21) rfl k)) ?_
  have cq := Jvm.LawKit.callS X0 hx (y := oM3) hown (mvT hZ (oW hw 175 rfl)) (mvT hZ (oW hw 176 rfl)) (mvT hZ (oW hw 177 rfl)) (mvT hZ (oW hw 178 rfl)) (by decide) (backOf (W := 0) (rm24 l Z a0 hw [] (q0.toInt32) h0 n0 Z0) hZ (oW hw 178 rfl) (oW hw 177 rfl) (by decide) (by decide)) (g := (mkF m 22 #[oJ q0, oS, .val (.int (q0.toInt32))] [(.int (q0.toInt32))])) rfl (by rw [hml]; rfl) (argsL := [(.int (q0.toInt32))]) (rest := []) (lenOf own_pd90 rfl) rfl (by show 2 * 0 + _ ≤ _; exact Nat.le_of_eq rfl) (hb hby d23_22) (fun _ _ => ⟨rfl, e0, (by decide : 0 + 0 ≤ _), (by decide : 0 + 0 ≤ _)⟩)
  obtain ⟨_, _, ⟨T3, L3, k3, n3⟩, -, X3, ⟨Lc3, hQ3, l3, y3, z3⟩, st3⟩ := cq
  dsimp only [Pt.U, Pt.locs, Pt.cells, Pt.slots] at X3 l3 y3 z3 st3 hQ3
  replace y3 : 0 = k3 := y3.symm
  replace z3 : 0 = n3 := z3.symm
  subst y3 z3
  obtain ⟨rfl, N3q, e3⟩ := hQ3
  have N3 : Fr n0 L3 := by rw [l3]; exact Fr.app N0 N3q
  refine own_go (fun tg k => st3 tg k) ?_
  show oF (T3.setTop (mkF m 25 #[oJ q0, oS, .val (.int (q0.toInt32))] [(.int (own_f24 (q0.toInt32)))]))
  refine own_ret X3 hx hlk Bd.returns rfl (Or.inl ⟨rfl, by simp, _, rfl⟩) (hb hby d23_25) (Nat.le_of_ble_eq_true rfl) (Nat.le_of_ble_eq_true rfl) ?_
  exact ⟨(own_lf_own_f23_2 (q0 := q0) hc1), N3, e3⟩
theorem own_ntz (x : Int64) : own_f23 x = own_nJ x := rfl
theorem own_sn109 {Z : State} {a0 : Array Value} (hw : oH Z a0) : oO Z oC3 "size" "I" ≠ oO Z oC3 "indices" "[I" := slot_ne (Or.inl (oW hw 114 rfl)) (Or.inl (oW hw 51 rfl)) (by decide) (t := .int) (t' := (.array .int)) (by decide) (by decide)
theorem d6_0 : oQ oD5 0 (.aload_n 0) 1 := by decide +kernel
theorem d6_1 : oQ oD5 1 (.invokespecial 1) 3 := by decide +kernel
theorem d6_4 : oQ oD5 4 (.aload_n 0) 1 := by decide +kernel
theorem d6_5 : oQ oD5 5 (.bipush 16) 2 := by decide +kernel
theorem d6_7 : oQ oD5 7 (.newarray .int) 2 := by decide +kernel
theorem d6_9 : oQ oD5 9 (.putfield 7) 3 := by decide +kernel
theorem d6_12 : oQ oD5 12 .return_ 1 := by decide +kernel
theorem pn_6 : plainName oC3 = true := by first | (simp [plainName, overriddenIn]; done) | decide +kernel
theorem ef_6 (m : MethodId) (r0 : Addr) : entryFrame m #[(.ref r0)] 1 = mkF m 0 #[oR r0] [] := by first | (simp [entryFrame, mkF, argsToLocals, Value.category]; done) | rfl
def rm6_room : Room := { frames := 1, cells := 1, slots := 16, locals := 12 }
def Qrm6 (Z : State) (r0 : Addr) (h0 : Heap) (n0 : Nat) (v : Option Value) (h : Heap) (L : List Loc) : Prop := ∃ b : Addr, v = none ∧ Fr n0 L ∧ Keep h0 h [r0] ∧ h0.size ≤ b ∧ Exa Z h r0 oC3 ∧ Fld Z h r0 oC3 "indices" "[I" (.ref b) ∧ Fld Z h r0 oC3 "size" "I" (.int 0) ∧ own_Arf Z h b .int (16 : Int32) (fun i => .int ((fun _ => (0 : Int32)) i))
set_option maxRecDepth 65536 in
set_option maxHeartbeats 40000000 in
theorem rm6 (l : Launch) (Z : State) (a0 : Array Value) (hw : oH Z a0) (ws : List Jvm.Cond) (r0 : Addr) (h0 : Heap) (n0 : Nat) (Z0 : n0 ≤ h0.size) (E_r0_0 : Exa Z h0 r0 oC3) (F_indices_r0_0 : Fld Z h0 r0 oC3 "indices" "[I" .null) (F_size_r0_0 : Fld Z h0 r0 oC3 "size" "I" (.int 0)) (ge_r0 : n0 ≤ r0) :
    MetFree l oM5 (head1 (Jvm.Cond.code oM5 prog_26_method_1_code 1 none :: ws) rm6_room) (fun a U => a = #[(.ref r0)] ∧ Z.Warmed39 U.vm ∧ U.heap = h0) (fun _ _ _ _ _ => True) (fun _ U o U' => ∃ v L, o = .returned v ∧ Qrm6 Z r0 h0 n0 v U'.heap L ∧ FrameEnd U o U' L rm6_room.cells rm6_room.slots) := by
 refine MetFree.of_bodySF (plainFor_of_name pn_6) hisR ?_
 intro p e s m args below meth c s₁ Bd hml0 hP hK
 obtain ⟨rfl, hZ, hh⟩ := hP
 have hx := Bd.exec
 have hby := Bd.bytes
 have hml : c.maxLocals = 1 := hml0
 have hown : s.vm.findClass oC3 = some m.cls := findClass_of_methodNamed Bd.named
 have hnm := (name_of_methodNamed Bd.named Bd.method).1
 have hlk : meth.locks = false := BodyLoose.notSynchronized Bd
 have X0 : Stand p l e rm6_room s m #[(.ref r0)] below meth c s₁ [] 0 0 := Stand.of_body Bd
 have e0 : s₁.heap = h0 := by rw [← hh, Bd.state]; rfl
 have N0 := Fr.nil n0
 show own_Fin p.tables e below s (Qrm6 Z r0 h0 n0) rm6_room.cells rm6_room.slots (s₁.setTop (entryFrame m #[(.ref r0)] 1))
 rw [ef_6]
 show oF (s₁.setTop (mkF m 0 #[oR r0] []))
 have K0 := Keep.refl h0 [r0]
 refine own_go (fun _ k => XS.aloadN X0.here hx rfl (hb hby d6_0) rfl rfl k) ?_
 obtain ⟨T1, X1, e1, st1⟩ := initO X0 hx hZ hown (oW hw 48 rfl) (oW hw 21 rfl) (oW hw 22 rfl) e0 (g := (mkF m 1 #[oR r0] [(.ref r0)])) rfl (by rw [hml]; rfl) rfl (hb hby d6_1) (by decide) (W := 0) (by show 2 * 0 + _ ≤ _; exact Nat.le_of_eq rfl) (by decide)
 refine own_go (fun tg k => st1 tg k) ?_
 show oF (T1.setTop (mkF m 4 #[oR r0] []))
 refine own_go (fun _ k => XS.aloadN X1.here hx rfl (hb hby d6_4) rfl rfl (XS.bipush X1.here hx rfl (hb hby d6_5) k)) ?_
 obtain ⟨T2, h2, k2, X2, e2, E2, A2, st2⟩ := newP X1 hx hZ (oW hw 49 rfl) e1 (g := (mkF m 7 #[oR r0] [(.int 16), (.ref r0)])) rfl (hb hby d6_7) rfl (by decide) (cap := 16) (by decide) (by decide) (by decide) (by decide)
 obtain ⟨b2, g2⟩ : ∃ z, z = h0.size := ⟨_, rfl⟩
 rw [← g2] at A2 st2
 have ne_r0_b2 : r0 ≠ b2 := Nat.ne_of_lt (Nat.lt_of_lt_of_le E_r0_0.lt (Nat.le_of_eq g2.symm))
 have ge_b2 : n0 ≤ b2 := Nat.le_trans Z0 (Nat.le_of_eq g2.symm)
 have sz_b2 : h0.size ≤ b2 := Nat.le_trans K0.1 (Nat.le_of_eq g2.symm)
 have E_r0_2 := E_r0_0.ext E2
 have F_indices_r0_2 := F_indices_r0_0.ext E2
 have F_size_r0_2 := F_size_r0_0.ext E2
 have K2 := K0.ext E2
 have Z2 : n0 ≤ h2.size := Nat.le_trans Z0 E2.1
 have A_b2_2 : own_Arf Z h2 b2 .int (16 : Int32) (fun i => .int ((fun _ => (0 : Int32)) i)) := own_Arf.new A2 (by decide)
 refine own_go (fun tg k => st2 tg k) ?_
 obtain ⟨T3, h3, X3, e3, W3, st3⟩ := putF X2 hx hZ hown (host := "") (Or.inl (oW hw 50 rfl)) Via.refl e2 F_indices_r0_2 E_r0_2 (Or.inl (oW hw 51 rfl)) (oW hw 43 rfl) (ty := (.array .int)) (by decide) rfl rfl (g := (mkF m 9 #[oR r0] [(.ref b2), (.ref r0)])) rfl rfl (hb hby d6_9)
 have E_r0_3 := E_r0_2.wr W3
 have F_size_r0_3 := F_size_r0_2.other W3 (Or.inr (own_sn109 hw))
 have A_b2_3 := A_b2_2.other W3 (Ne.symm ne_r0_b2)
 have K3 := K2.wr W3 (Or.inl (List.mem_of_getElem? (i := 0) rfl))
 have N3 := Fr.snoc X3 N0 ge_r0
 have Z3 : n0 ≤ h3.size := Nat.le_trans Z2 (Keep.of_wr W3).1
 have F_indices_r0_3 := F_indices_r0_2.same W3
 refine own_go (fun tg k => st3 tg k) ?_
 refine own_retV X3 hx hlk Bd.returns (hb hby d6_12) (Nat.le_of_ble_eq_true rfl) (Nat.le_of_ble_eq_true rfl) ?_
 rw [e3]
 refine ⟨b2, rfl, N3, K3, sz_b2, E_r0_3, ?_, ?_, ?_⟩
 · (exact F_indices_r0_3)
 · (exact F_size_r0_3)
 · (exact A_b2_3)
theorem d13_0 : oQ oD6 0 (.aload_n 0) 1 := by decide +kernel
theorem d13_1 : oQ oD6 1 (.getfield 13) 3 := by decide +kernel
theorem d13_4 : oQ oD6 4 .ireturn 1 := by decide +kernel
theorem pn_13 : plainName oC3 = true := by first | (simp [plainName, overriddenIn]; done) | decide +kernel
theorem ef_13 (m : MethodId) (r0 : Addr) : entryFrame m #[(.ref r0)] 1 = mkF m 0 #[oR r0] [] := by first | (simp [entryFrame, mkF, argsToLocals, Value.category]; done) | rfl
def rm13_room : Room := { frames := 0, cells := 0, slots := 0, locals := 0 }
def Qrm13 (Z : State) (r0 : Addr) (x1 : Int32) (h0 : Heap) (n0 : Nat) (v : Option Value) (h : Heap) (L : List Loc) : Prop := v = some (.int x1) ∧ Fr n0 L ∧ h = h0
set_option maxRecDepth 65536 in
set_option maxHeartbeats 40000000 in
theorem rm13 (l : Launch) (Z : State) (a0 : Array Value) (hw : oH Z a0) (ws : List Jvm.Cond) (r0 : Addr) (x1 : Int32) (h0 : Heap) (n0 : Nat) (Z0 : n0 ≤ h0.size) (F_size_r0_0 : Fld Z h0 r0 oC3 "size" "I" (.int x1)) :
    MetFree l oM6 (head1 (Jvm.Cond.code oM6 prog_26_method_3_code 1 (some .int) :: ws) rm13_room) (fun a U => a = #[(.ref r0)] ∧ Z.Warmed39 U.vm ∧ U.heap = h0) (fun _ _ _ _ _ => True) (fun _ U o U' => ∃ v L, o = .returned v ∧ Qrm13 Z r0 x1 h0 n0 v U'.heap L ∧ FrameEnd U o U' L rm13_room.cells rm13_room.slots) := by
 refine MetFree.of_bodySF (plainFor_of_name pn_13) hisR ?_
 intro p e s m args below meth c s₁ Bd hml0 hP hK
 obtain ⟨rfl, hZ, hh⟩ := hP
 have hx := Bd.exec
 have hby := Bd.bytes
 have hml : c.maxLocals = 1 := hml0
 have hown : s.vm.findClass oC3 = some m.cls := findClass_of_methodNamed Bd.named
 have hnm := (name_of_methodNamed Bd.named Bd.method).1
 have hlk : meth.locks = false := BodyLoose.notSynchronized Bd
 have X0 : Stand p l e rm13_room s m #[(.ref r0)] below meth c s₁ [] 0 0 := Stand.of_body Bd
 have e0 : s₁.heap = h0 := by rw [← hh, Bd.state]; rfl
 have N0 := Fr.nil n0
 show own_Fin p.tables e below s (Qrm13 Z r0 x1 h0 n0) rm13_room.cells rm13_room.slots (s₁.setTop (entryFrame m #[(.ref r0)] 1))
 rw [ef_13]
 show oF (s₁.setTop (mkF m 0 #[oR r0] []))
 refine own_go (fun _ k => XS.aloadN X0.here hx rfl (hb hby d13_0) rfl rfl k) ?_
 obtain ⟨T1, X1, e1, st1⟩ := getF X0 hx hZ hown (host := "") (Or.inl (oW hw 113 rfl)) Via.refl e0 F_size_r0_0 (g := (mkF m 1 #[oR r0] [(.ref r0)])) rfl rfl (hb hby d13_1)
 refine own_go (fun tg k => st1 tg k) ?_
 refine own_ret X1 hx hlk Bd.returns rfl (Or.inl ⟨rfl, by simp, _, rfl⟩) (hb hby d13_4) (Nat.le_of_ble_eq_true rfl) (Nat.le_of_ble_eq_true rfl) ?_
 refine ⟨?_, N0, e1⟩
 · rfl
theorem d21_0 : oQ oD7 0 (.aload_n 0) 1 := by decide +kernel
theorem d21_1 : oQ oD7 1 (.getfield 7) 3 := by decide +kernel
theorem d21_4 : oQ oD7 4 (.iload_n 1) 1 := by decide +kernel
theorem d21_5 : oQ oD7 5 .iaload 1 := by decide +kernel
theorem d21_6 : oQ oD7 6 .ireturn 1 := by decide +kernel
theorem pn_21 : plainName oC3 = true := by first | (simp [plainName, overriddenIn]; done) | decide +kernel
theorem ef_21 (m : MethodId) (r0 : Addr) (p1 : Int32) : entryFrame m #[(.ref r0), (.int p1)] 2 = mkF m 0 #[oR r0, oI p1] [] := by first | (simp [entryFrame, mkF, argsToLocals, Value.category]; done) | rfl
def rm21_room : Room := { frames := 0, cells := 0, slots := 0, locals := 0 }
def Qrm21 (Z : State) (r0 : Addr) (p1 : Int32) (ix : Addr) (fi : Nat → Int32) (h0 : Heap) (n0 : Nat) (v : Option Value) (h : Heap) (L : List Loc) : Prop := v = some (.int (fi p1.toNatClampNeg)) ∧ Fr n0 L ∧ h = h0
set_option maxRecDepth 65536 in
set_option maxHeartbeats 40000000 in
theorem rm21 (l : Launch) (Z : State) (a0 : Array Value) (hw : oH Z a0) (ws : List Jvm.Cond) (r0 : Addr) (p1 : Int32) (ix : Addr) (fi : Nat → Int32) (h0 : Heap) (n0 : Nat) (Z0 : n0 ≤ h0.size) (F_indices_r0_0 : Fld Z h0 r0 oC3 "indices" "[I" (.ref ix)) (A_ix_0 : own_Arf Z h0 ix .int (16 : Int32) (fun i => .int (fi i))) (hp : ¬ p1 < 0 ∧ p1 < (16 : Int32)) :
    MetFree l oM7 (head1 (Jvm.Cond.code oM7 prog_26_method_4_code 2 (some .int) :: ws) rm21_room) (fun a U => a = #[(.ref r0), (.int p1)] ∧ Z.Warmed39 U.vm ∧ U.heap = h0) (fun _ _ _ _ _ => True) (fun _ U o U' => ∃ v L, o = .returned v ∧ Qrm21 Z r0 p1 ix fi h0 n0 v U'.heap L ∧ FrameEnd U o U' L rm21_room.cells rm21_room.slots) := by
 refine MetFree.of_bodySF (plainFor_of_name pn_21) hisR ?_
 intro p e s m args below meth c s₁ Bd hml0 hP hK
 obtain ⟨rfl, hZ, hh⟩ := hP
 have hx := Bd.exec
 have hby := Bd.bytes
 have hml : c.maxLocals = 2 := hml0
 have hown : s.vm.findClass oC3 = some m.cls := findClass_of_methodNamed Bd.named
 have hnm := (name_of_methodNamed Bd.named Bd.method).1
 have hlk : meth.locks = false := BodyLoose.notSynchronized Bd
 have X0 : Stand p l e rm21_room s m #[(.ref r0), (.int p1)] below meth c s₁ [] 0 0 := Stand.of_body Bd
 have e0 : s₁.heap = h0 := by rw [← hh, Bd.state]; rfl
 have N0 := Fr.nil n0
 show own_Fin p.tables e below s (Qrm21 Z r0 p1 ix fi h0 n0) rm21_room.cells rm21_room.slots (s₁.setTop (entryFrame m #[(.ref r0), (.int p1)] 2))
 rw [ef_21]
 show oF (s₁.setTop (mkF m 0 #[oR r0, oI p1] []))
 refine own_go (fun _ k => XS.aloadN X0.here hx rfl (hb hby d21_0) rfl rfl k) ?_
 obtain ⟨T1, X1, e1, st1⟩ := getF X0 hx hZ hown (host := "") (Or.inl (oW hw 50 rfl)) Via.refl e0 F_indices_r0_0 (g := (mkF m 1 #[oR r0, oI p1] [(.ref r0)])) rfl rfl (hb hby d21_1)
 refine own_go (fun tg k => st1 tg k) ?_
 refine own_go (fun _ k => XS.iloadN X1.here hx rfl (hb hby d21_4) rfl k) ?_
 refine own_go (fun tg k => own_iaload X1 hx hZ e1 A_ix_0 (j := p1) hp (x := (fi p1.toNatClampNeg)) rfl (g := (mkF m 5 #[oR r0, oI p1] [(.int p1), (.ref ix)])) rfl rfl (hb hby d21_5) tg k) ?_
 refine own_ret X1 hx hlk Bd.returns rfl (Or.inl ⟨rfl, by simp, _, rfl⟩) (hb hby d21_6) (Nat.le_of_ble_eq_true rfl) (Nat.le_of_ble_eq_true rfl) ?_
 refine ⟨?_, N0, e1⟩
 · rfl
theorem own_sn131 {Z : State} {a0 : Array Value} (hw : oH Z a0) : oO Z oC3 "indices" "[I" ≠ oO Z oC3 "size" "I" := slot_ne (Or.inl (oW hw 51 rfl)) (Or.inl (oW hw 114 rfl)) (by decide) (t := (.array .int)) (t' := .int) (by decide) (by decide)
theorem d15_0 : oQ oD8 0 (.aload_n 0) 1 := by decide +kernel
theorem d15_1 : oQ oD8 1 (.iconst 0) 1 := by decide +kernel
theorem d15_2 : oQ oD8 2 (.putfield 13) 3 := by decide +kernel
theorem d15_5 : oQ oD8 5 .return_ 1 := by decide +kernel
theorem pn_15 : plainName oC3 = true := by first | (simp [plainName, overriddenIn]; done) | decide +kernel
theorem ef_15 (m : MethodId) (r0 : Addr) : entryFrame m #[(.ref r0)] 1 = mkF m 0 #[oR r0] [] := by first | (simp [entryFrame, mkF, argsToLocals, Value.category]; done) | rfl
def rm15_room : Room := { frames := 0, cells := 0, slots := 0, locals := 0 }
def Qrm15 (Z : State) (r0 : Addr) (x1 : Int32) (ix : Addr) (h0 : Heap) (n0 : Nat) (v : Option Value) (h : Heap) (L : List Loc) : Prop := v = none ∧ Fr n0 L ∧ Keep h0 h [r0] ∧ Exa Z h r0 oC3 ∧ Fld Z h r0 oC3 "size" "I" (.int 0) ∧ Fld Z h r0 oC3 "indices" "[I" (.ref ix)
set_option maxRecDepth 65536 in
set_option maxHeartbeats 40000000 in
theorem rm15 (l : Launch) (Z : State) (a0 : Array Value) (hw : oH Z a0) (ws : List Jvm.Cond) (r0 : Addr) (x1 : Int32) (ix : Addr) (h0 : Heap) (n0 : Nat) (Z0 : n0 ≤ h0.size) (E_r0_0 : Exa Z h0 r0 oC3) (F_size_r0_0 : Fld Z h0 r0 oC3 "size" "I" (.int x1)) (F_indices_r0_0 : Fld Z h0 r0 oC3 "indices" "[I" (.ref ix)) (ge_r0 : n0 ≤ r0) :
    MetFree l oM8 (head1 (Jvm.Cond.code oM8 prog_26_method_7_code 1 none :: ws) rm15_room) (fun a U => a = #[(.ref r0)] ∧ Z.Warmed39 U.vm ∧ U.heap = h0) (fun _ _ _ _ _ => True) (fun _ U o U' => ∃ v L, o = .returned v ∧ Qrm15 Z r0 x1 ix h0 n0 v U'.heap L ∧ FrameEnd U o U' L rm15_room.cells rm15_room.slots) := by
 refine MetFree.of_bodySF (plainFor_of_name pn_15) hisR ?_
 intro p e s m args below meth c s₁ Bd hml0 hP hK
 obtain ⟨rfl, hZ, hh⟩ := hP
 have hx := Bd.exec
 have hby := Bd.bytes
 have hml : c.maxLocals = 1 := hml0
 have hown : s.vm.findClass oC3 = some m.cls := findClass_of_methodNamed Bd.named
 have hnm := (name_of_methodNamed Bd.named Bd.method).1
 have hlk : meth.locks = false := BodyLoose.notSynchronized Bd
 have X0 : Stand p l e rm15_room s m #[(.ref r0)] below meth c s₁ [] 0 0 := Stand.of_body Bd
 have e0 : s₁.heap = h0 := by rw [← hh, Bd.state]; rfl
 have N0 := Fr.nil n0
 show own_Fin p.tables e below s (Qrm15 Z r0 x1 ix h0 n0) rm15_room.cells rm15_room.slots (s₁.setTop (entryFrame m #[(.ref r0)] 1))
 rw [ef_15]
 show oF (s₁.setTop (mkF m 0 #[oR r0] []))
 have K0 := Keep.refl h0 [r0]
 refine own_go (fun _ k => XS.aloadN X0.here hx rfl (hb hby d15_0) rfl rfl (XS.iconst X0.here hx rfl (hb hby d15_1) k)) ?_
 obtain ⟨T1, h1, X1, e1, W1, st1⟩ := putF X0 hx hZ hown (host := "") (Or.inl (oW hw 113 rfl)) Via.refl e0 F_size_r0_0 E_r0_0 (Or.inl (oW hw 114 rfl)) (oW hw 43 rfl) (ty := .int) (by decide) rfl rfl (g := (mkF m 2 #[oR r0] [(.int 0), (.ref r0)])) rfl rfl (hb hby d15_2)
 have E_r0_1 := E_r0_0.wr W1
 have F_indices_r0_1 := F_indices_r0_0.other W1 (Or.inr (own_sn131 hw))
 have K1 := K0.wr W1 (Or.inl (List.mem_of_getElem? (i := 0) rfl))
 have N1 := Fr.snoc X1 N0 ge_r0
 have Z1 : n0 ≤ h1.size := Nat.le_trans Z0 (Keep.of_wr W1).1
 have F_size_r0_1 := F_size_r0_0.same W1
 refine own_go (fun tg k => st1 tg k) ?_
 refine own_retV X1 hx hlk Bd.returns (hb hby d15_5) (Nat.le_of_ble_eq_true rfl) (Nat.le_of_ble_eq_true rfl) ?_
 rw [e1]
 refine ⟨rfl, N1, K1, E_r0_1, ?_, ?_⟩
 · (exact F_size_r0_1)
 · (exact F_indices_r0_1)
theorem d18_0 : oQ oD9 0 (.aload_n 0) 1 := by decide +kernel
theorem d18_1 : oQ oD9 1 (.getfield 13) 3 := by decide +kernel
theorem d18_4 : oQ oD9 4 (.aload_n 0) 1 := by decide +kernel
theorem d18_5 : oQ oD9 5 (.getfield 7) 3 := by decide +kernel
theorem d18_8 : oQ oD9 8 .arraylength 1 := by decide +kernel
theorem d18_9 : oQ oD9 9 (.if_icmp .ne 30) 3 := by decide +kernel
theorem d18_39 : oQ oD9 39 (.aload_n 0) 1 := by decide +kernel
theorem d18_40 : oQ oD9 40 (.getfield 7) 3 := by decide +kernel
theorem d18_43 : oQ oD9 43 (.aload_n 0) 1 := by decide +kernel
theorem d18_44 : oQ oD9 44 .dup 1 := by decide +kernel
theorem d18_45 : oQ oD9 45 (.getfield 13) 3 := by decide +kernel
theorem d18_48 : oQ oD9 48 .dup_x1 1 := by decide +kernel
theorem d18_49 : oQ oD9 49 (.iconst 1) 1 := by decide +kernel
theorem d18_50 : oQ oD9 50 .iadd 1 := by decide +kernel
theorem d18_51 : oQ oD9 51 (.putfield 13) 3 := by decide +kernel
theorem d18_54 : oQ oD9 54 (.iload_n 1) 1 := by decide +kernel
theorem d18_55 : oQ oD9 55 .iastore 1 := by decide +kernel
theorem d18_56 : oQ oD9 56 .return_ 1 := by decide +kernel
theorem pn_18 : plainName oC3 = true := by first | (simp [plainName, overriddenIn]; done) | decide +kernel
theorem ef_18 (m : MethodId) (r0 : Addr) (p1 : Int32) : entryFrame m #[(.ref r0), (.int p1)] 2 = mkF m 0 #[oR r0, oI p1] [] := by first | (simp [entryFrame, mkF, argsToLocals, Value.category]; done) | rfl
def rm18_room : Room := { frames := 0, cells := 0, slots := 0, locals := 0 }
def Qrm18 (Z : State) (r0 : Addr) (p1 : Int32) (x1 : Int32) (ix : Addr) (fi : Nat → Int32) (h0 : Heap) (n0 : Nat) (v : Option Value) (h : Heap) (L : List Loc) : Prop := v = none ∧ Fr n0 L ∧ Keep h0 h [r0, ix] ∧ Exa Z h r0 oC3 ∧ Fld Z h r0 oC3 "size" "I" (.int (x1 + (1 : Int32))) ∧ Fld Z h r0 oC3 "indices" "[I" (.ref ix) ∧ own_Arf Z h ix .int (16 : Int32) (fun i => .int ((own_set fi x1 p1) i))
set_option maxRecDepth 65536 in
set_option maxHeartbeats 40000000 in
theorem rm18 (l : Launch) (Z : State) (a0 : Array Value) (hw : oH Z a0) (ws : List Jvm.Cond) (r0 : Addr) (p1 : Int32) (x1 : Int32) (ix : Addr) (fi : Nat → Int32) (h0 : Heap) (n0 : Nat) (Z0 : n0 ≤ h0.size) (E_r0_0 : Exa Z h0 r0 oC3) (F_size_r0_0 : Fld Z h0 r0 oC3 "size" "I" (.int x1)) (F_indices_r0_0 : Fld Z h0 r0 oC3 "indices" "[I" (.ref ix)) (A_ix_0 : own_Arf Z h0 ix .int (16 : Int32) (fun i => .int (fi i))) (ge_r0 : n0 ≤ r0) (ge_ix : n0 ≤ ix) (hp : ¬ x1 < 0 ∧ x1 < (16 : Int32)) :
    MetFree l oM9 (head1 (Jvm.Cond.code oM9 prog_26_method_2_code 2 none :: ws) rm18_room) (fun a U => a = #[(.ref r0), (.int p1)] ∧ Z.Warmed39 U.vm ∧ U.heap = h0) (fun _ _ _ _ _ => True) (fun _ U o U' => ∃ v L, o = .returned v ∧ Qrm18 Z r0 p1 x1 ix fi h0 n0 v U'.heap L ∧ FrameEnd U o U' L rm18_room.cells rm18_room.slots) := by
 refine MetFree.of_bodySF (plainFor_of_name pn_18) hisR ?_
 intro p e s m args below meth c s₁ Bd hml0 hP hK
 obtain ⟨rfl, hZ, hh⟩ := hP
 have hx := Bd.exec
 have hby := Bd.bytes
 have hml : c.maxLocals = 2 := hml0
 have hown : s.vm.findClass oC3 = some m.cls := findClass_of_methodNamed Bd.named
 have hnm := (name_of_methodNamed Bd.named Bd.method).1
 have hlk : meth.locks = false := BodyLoose.notSynchronized Bd
 have X0 : Stand p l e rm18_room s m #[(.ref r0), (.int p1)] below meth c s₁ [] 0 0 := Stand.of_body Bd
 have e0 : s₁.heap = h0 := by rw [← hh, Bd.state]; rfl
 have N0 := Fr.nil n0
 show own_Fin p.tables e below s (Qrm18 Z r0 p1 x1 ix fi h0 n0) rm18_room.cells rm18_room.slots (s₁.setTop (entryFrame m #[(.ref r0), (.int p1)] 2))
 rw [ef_18]
 show oF (s₁.setTop (mkF m 0 #[oR r0, oI p1] []))
 have K0 := Keep.refl h0 [r0, ix]
 refine own_go (fun _ k => XS.aloadN X0.here hx rfl (hb hby d18_0) rfl rfl k) ?_
 obtain ⟨T1, X1, e1, st1⟩ := getF X0 hx hZ hown (host := "") (Or.inl (oW hw 113 rfl)) Via.refl e0 F_size_r0_0 (g := (mkF m 1 #[oR r0, oI p1] [(.ref r0)])) rfl rfl (hb hby d18_1)
 refine own_go (fun tg k => st1 tg k) ?_
 refine own_go (fun _ k => XS.aloadN X1.here hx rfl (hb hby d18_4) rfl rfl k) ?_
 obtain ⟨T2, X2, e2, st2⟩ := getF X1 hx hZ hown (host := "") (Or.inl (oW hw 50 rfl)) Via.refl e1 F_indices_r0_0 (g := (mkF m 5 #[oR r0, oI p1] [(.ref r0), (.int x1)])) rfl rfl (hb hby d18_5)
 refine own_go (fun tg k => st2 tg k) ?_
 refine own_go (fun tg k => own_alen X2 hx hZ e2 A_ix_0 (g := (mkF m 8 #[oR r0, oI p1] [(.ref ix), (.int x1)])) rfl rfl (hb hby d18_8) tg k) ?_
 have hc9 : ¬ (x1 = (16 : Int32)) := (own_ne16 hp.2)
 refine own_go (fun _ k => XS.icmpYes X2.here hx rfl (pc0 := 9) (pc' := 39) rfl (hb hby d18_9) rfl (feq hc9).2 (by decide) (by decide) k) ?_
 show oF (T2.setTop (mkF m 39 #[oR r0, oI p1] []))
 refine own_go (fun _ k => XS.aloadN X2.here hx rfl (hb hby d18_39) rfl rfl k) ?_
 obtain ⟨T3, X3, e3, st3⟩ := getF X2 hx hZ hown (host := "") (Or.inl (oW hw 50 rfl)) Via.refl e2 F_indices_r0_0 (g := (mkF m 40 #[oR r0, oI p1] [(.ref r0)])) rfl rfl (hb hby d18_40)
 refine own_go (fun tg k => st3 tg k) ?_
 refine own_go (fun _ k => XS.aloadN X3.here hx rfl (hb hby d18_43) rfl rfl (XS.dup X3.here hx rfl (hb hby d18_44) rfl rfl k)) ?_
 obtain ⟨T4, X4, e4, st4⟩ := getF X3 hx hZ hown (host := "") (Or.inl (oW hw 113 rfl)) Via.refl e3 F_size_r0_0 (g := (mkF m 45 #[oR r0, oI p1] [(.ref r0), (.ref r0), (.ref ix)])) rfl rfl (hb hby d18_45)
 refine own_go (fun tg k => st4 tg k) ?_
 refine own_go (fun _ k => XS.dupX1 X4.here hx rfl (hb hby d18_48) rfl rfl rfl (XS.iconst X4.here hx rfl (hb hby d18_49) (XS.iadd X4.here hx rfl (hb hby d18_50) rfl k))) ?_
 obtain ⟨T5, h5, X5, e5, W5, st5⟩ := putF X4 hx hZ hown (host := "") (Or.inl (oW hw 113 rfl)) Via.refl e4 F_size_r0_0 E_r0_0 (Or.inl (oW hw 114 rfl)) (oW hw 43 rfl) (ty := .int) (by decide) rfl rfl (g := (mkF m 51 #[oR r0, oI p1] [(.int (x1 + (1 : Int32))), (.ref r0), (.int x1), (.ref ix)])) rfl rfl (hb hby d18_51)
 have E_r0_5 := E_r0_0.wr W5
 have F_indices_r0_5 := F_indices_r0_0.other W5 (Or.inr (own_sn131 hw))
 have A_ix_5 := A_ix_0.other W5 (Ne.symm (own_ne_arf E_r0_0 (oW hw 43 rfl) A_ix_0))
 have K5 := K0.wr W5 (Or.inl (List.mem_of_getElem? (i := 0) rfl))
 have N5 := Fr.snoc X5 N0 ge_r0
 have Z5 : n0 ≤ h5.size := Nat.le_trans Z0 (Keep.of_wr W5).1
 have F_size_r0_5 := F_size_r0_0.same W5
 refine own_go (fun tg k => st5 tg k) ?_
 refine own_go (fun _ k => XS.iloadN X5.here hx rfl (hb hby d18_54) rfl k) ?_
 obtain ⟨T6, h6, X6, e6, W6, A_ix_6, st6⟩ := own_stI X5 hx hZ e5 A_ix_5 (j := x1) hp (g := (mkF m 55 #[oR r0, oI p1] [(.int p1), (.int x1), (.ref ix)])) rfl rfl (hb hby d18_55)
 have E_r0_6 := E_r0_5.wr W6
 have u6_r0 := (own_ne_arf E_r0_5 (oW hw 43 rfl) A_ix_5)
 have F_size_r0_6 := F_size_r0_5.other W6 (Or.inl u6_r0)
 have F_indices_r0_6 := F_indices_r0_5.other W6 (Or.inl u6_r0)
 have K6 := K5.wr W6 (Or.inl (List.mem_of_getElem? (i := 1) rfl))
 have N6 := Fr.snoc X6 N5 ge_ix
 have Z6 : n0 ≤ h6.size := Nat.le_trans Z5 (Keep.of_wr W6).1
 refine own_go (fun tg k => st6 tg k) ?_
 refine own_retV X6 hx hlk Bd.returns (hb hby d18_56) (Nat.le_of_ble_eq_true rfl) (Nat.le_of_ble_eq_true rfl) ?_
 rw [e6]
 refine ⟨rfl, N6, K6, E_r0_6, ?_, ?_, ?_⟩
 · (exact F_size_r0_6)
 · (exact F_indices_r0_6)
 · (exact A_ix_6)
theorem own_pd158 : parseMethodDescriptor "()V" = some ⟨[], none⟩ := by decide +kernel
theorem own_sn159 {Z : State} {a0 : Array Value} (hw : oH Z a0) : oO Z oC1 "words" "[J" ≠ oO Z oC1 "blocks" oC5 := slot_ne (Or.inr (oW hw 58 rfl)) (Or.inr (oW hw 53 rfl)) (by decide) (t := (.array .long)) (t' := (.object oC3)) (by decide) (by decide)
theorem own_sn160 {Z : State} {a0 : Array Value} (hw : oH Z a0) : oO Z oC1 "held" "[Z" ≠ oO Z oC1 "blocks" oC5 := slot_ne (Or.inr (oW hw 61 rfl)) (Or.inr (oW hw 53 rfl)) (by decide) (t := (.array .boolean)) (t' := (.object oC3)) (by decide) (by decide)
theorem own_sn161 {Z : State} {a0 : Array Value} (hw : oH Z a0) : oO Z oC1 "sorted" "Z" ≠ oO Z oC1 "blocks" oC5 := slot_ne (Or.inl (oW hw 55 rfl)) (Or.inr (oW hw 53 rfl)) (by decide) (t := .boolean) (t' := (.object oC3)) (by decide) (by decide)
theorem own_sn162 {Z : State} {a0 : Array Value} (hw : oH Z a0) : oO Z oC1 "words" "[J" ≠ oO Z oC1 "sorted" "Z" := slot_ne (Or.inr (oW hw 58 rfl)) (Or.inl (oW hw 55 rfl)) (by decide) (t := (.array .long)) (t' := .boolean) (by decide) (by decide)
theorem own_sn163 {Z : State} {a0 : Array Value} (hw : oH Z a0) : oO Z oC1 "held" "[Z" ≠ oO Z oC1 "sorted" "Z" := slot_ne (Or.inr (oW hw 61 rfl)) (Or.inl (oW hw 55 rfl)) (by decide) (t := (.array .boolean)) (t' := .boolean) (by decide) (by decide)
theorem own_sn164 {Z : State} {a0 : Array Value} (hw : oH Z a0) : oO Z oC1 "blocks" oC5 ≠ oO Z oC1 "sorted" "Z" := slot_ne (Or.inr (oW hw 53 rfl)) (Or.inl (oW hw 55 rfl)) (by decide) (t := (.object oC3)) (t' := .boolean) (by decide) (by decide)
theorem own_sn165 {Z : State} {a0 : Array Value} (hw : oH Z a0) : oO Z oC1 "held" "[Z" ≠ oO Z oC1 "words" "[J" := slot_ne (Or.inr (oW hw 61 rfl)) (Or.inr (oW hw 58 rfl)) (by decide) (t := (.array .boolean)) (t' := (.array .long)) (by decide) (by decide)
theorem own_sn166 {Z : State} {a0 : Array Value} (hw : oH Z a0) : oO Z oC1 "blocks" oC5 ≠ oO Z oC1 "words" "[J" := slot_ne (Or.inr (oW hw 53 rfl)) (Or.inr (oW hw 58 rfl)) (by decide) (t := (.object oC3)) (t' := (.array .long)) (by decide) (by decide)
theorem own_sn167 {Z : State} {a0 : Array Value} (hw : oH Z a0) : oO Z oC1 "sorted" "Z" ≠ oO Z oC1 "words" "[J" := slot_ne (Or.inl (oW hw 55 rfl)) (Or.inr (oW hw 58 rfl)) (by decide) (t := .boolean) (t' := (.array .long)) (by decide) (by decide)
theorem own_sn168 {Z : State} {a0 : Array Value} (hw : oH Z a0) : oO Z oC1 "words" "[J" ≠ oO Z oC1 "held" "[Z" := slot_ne (Or.inr (oW hw 58 rfl)) (Or.inr (oW hw 61 rfl)) (by decide) (t := (.array .long)) (t' := (.array .boolean)) (by decide) (by decide)
theorem own_sn169 {Z : State} {a0 : Array Value} (hw : oH Z a0) : oO Z oC1 "blocks" oC5 ≠ oO Z oC1 "held" "[Z" := slot_ne (Or.inr (oW hw 53 rfl)) (Or.inr (oW hw 61 rfl)) (by decide) (t := (.object oC3)) (t' := (.array .boolean)) (by decide) (by decide)
theorem own_sn170 {Z : State} {a0 : Array Value} (hw : oH Z a0) : oO Z oC1 "sorted" "Z" ≠ oO Z oC1 "held" "[Z" := slot_ne (Or.inl (oW hw 55 rfl)) (Or.inr (oW hw 61 rfl)) (by decide) (t := .boolean) (t' := (.array .boolean)) (by decide) (by decide)
theorem d5_0 : oQ oD10 0 (.aload_n 0) 1 := by decide +kernel
theorem d5_1 : oQ oD10 1 (.invokespecial 5) 3 := by decide +kernel
theorem d5_4 : oQ oD10 4 (.aload_n 0) 1 := by decide +kernel
theorem d5_5 : oQ oD10 5 (.new 11) 3 := by decide +kernel
theorem d5_8 : oQ oD10 8 .dup 1 := by decide +kernel
theorem d5_9 : oQ oD10 9 (.invokespecial 13) 3 := by decide +kernel
theorem d5_12 : oQ oD10 12 (.putfield 14) 3 := by decide +kernel
theorem d5_15 : oQ oD10 15 (.aload_n 0) 1 := by decide +kernel
theorem d5_16 : oQ oD10 16 (.iconst 1) 1 := by decide +kernel
theorem d5_17 : oQ oD10 17 (.putfield 20) 3 := by decide +kernel
theorem d5_20 : oQ oD10 20 (.aload_n 0) 1 := by decide +kernel
theorem d5_21 : oQ oD10 21 (.iload_n 1) 1 := by decide +kernel
theorem d5_22 : oQ oD10 22 (.bipush 16) 2 := by decide +kernel
theorem d5_24 : oQ oD10 24 .imul 1 := by decide +kernel
theorem d5_25 : oQ oD10 25 (.newarray .long) 2 := by decide +kernel
theorem d5_27 : oQ oD10 27 (.putfield 24) 3 := by decide +kernel
theorem d5_30 : oQ oD10 30 (.aload_n 0) 1 := by decide +kernel
theorem d5_31 : oQ oD10 31 (.iload_n 1) 1 := by decide +kernel
theorem d5_32 : oQ oD10 32 (.newarray .boolean) 2 := by decide +kernel
theorem d5_34 : oQ oD10 34 (.putfield 28) 3 := by decide +kernel
theorem d5_37 : oQ oD10 37 .return_ 1 := by decide +kernel
theorem pn_5 : plainName oC1 = true := by first | (simp [plainName, overriddenIn]; done) | decide +kernel
theorem ef_5 (m : MethodId) (r0 : Addr) (p1 : Int32) : entryFrame m #[(.ref r0), (.int p1)] 2 = mkF m 0 #[oR r0, oI p1] [] := by first | (simp [entryFrame, mkF, argsToLocals, Value.category]; done) | rfl
def rm5_room : Room := { frames := 2, cells := 4, slots := 69, locals := 26 }
def Qrm5 (Z : State) (r0 : Addr) (p1 : Int32) (h0 : Heap) (n0 : Nat) (v : Option Value) (h : Heap) (L : List Loc) : Prop := ∃ bl : Addr, ∃ bi : Addr, ∃ bw : Addr, ∃ bh : Addr, v = none ∧ Fr n0 L ∧ Keep h0 h [r0] ∧ h0.size ≤ bl ∧ h0.size ≤ bi ∧ h0.size ≤ bw ∧ h0.size ≤ bh ∧ Exa Z h r0 oC1 ∧ Fld Z h r0 oC1 "words" "[J" (.ref bw) ∧ Fld Z h r0 oC1 "held" "[Z" (.ref bh) ∧ Fld Z h r0 oC1 "blocks" oC5 (.ref bl) ∧ Fld Z h r0 oC1 "sorted" "Z" (.int 1) ∧ Exa Z h bl oC3 ∧ Fld Z h bl oC3 "indices" "[I" (.ref bi) ∧ Fld Z h bl oC3 "size" "I" (.int 0) ∧ own_Arf Z h bi .int (16 : Int32) (fun i => .int ((fun _ => (0 : Int32)) i)) ∧ own_Arf Z h bw .long (p1 * (16 : Int32)) (fun i => .long ((fun _ => (0 : Int64)) i)) ∧ own_Arf Z h bh .boolean p1 (fun i => .int ((fun _ => (0 : Int32)) i))
set_option maxRecDepth 65536 in
set_option maxHeartbeats 40000000 in
theorem rm5 (l : Launch) (Z : State) (a0 : Array Value) (hw : oH Z a0) (ws : List Jvm.Cond) (r0 : Addr) (p1 : Int32) (h0 : Heap) (n0 : Nat) (Z0 : n0 ≤ h0.size) (E_r0_0 : Exa Z h0 r0 oC1) (F_words_r0_0 : Fld Z h0 r0 oC1 "words" "[J" .null) (F_held_r0_0 : Fld Z h0 r0 oC1 "held" "[Z" .null) (F_blocks_r0_0 : Fld Z h0 r0 oC1 "blocks" oC5 .null) (F_sorted_r0_0 : Fld Z h0 r0 oC1 "sorted" "Z" (.int 0)) (ge_r0 : n0 ≤ r0) (hb3 : ∃ m : Nat, p1 = Int32.ofNat m ∧ m ≤ 3) :
    MetFree l oM10 (head1 (Jvm.Cond.code oM10 prog_49_method_1_code 2 none :: ws) rm5_room) (fun a U => a = #[(.ref r0), (.int p1)] ∧ Z.Warmed39 U.vm ∧ U.heap = h0) (fun _ _ _ _ _ => True) (fun _ U o U' => ∃ v L, o = .returned v ∧ Qrm5 Z r0 p1 h0 n0 v U'.heap L ∧ FrameEnd U o U' L rm5_room.cells rm5_room.slots) := by
 refine MetFree.of_bodySF (plainFor_of_name pn_5) hisR ?_
 intro p e s m args below meth c s₁ Bd hml0 hP hK
 obtain ⟨rfl, hZ, hh⟩ := hP
 have hx := Bd.exec
 have hby := Bd.bytes
 have hml : c.maxLocals = 2 := hml0
 have hown : s.vm.findClass oC1 = some m.cls := findClass_of_methodNamed Bd.named
 have hnm := (name_of_methodNamed Bd.named Bd.method).1
 have hlk : meth.locks = false := BodyLoose.notSynchronized Bd
 have X0 : Stand p l e rm5_room s m #[(.ref r0), (.int p1)] below meth c s₁ [] 0 0 := Stand.of_body Bd
 have e0 : s₁.heap = h0 := by rw [← hh, Bd.state]; rfl
 have N0 := Fr.nil n0
 show own_Fin p.tables e below s (Qrm5 Z r0 p1 h0 n0) rm5_room.cells rm5_room.slots (s₁.setTop (entryFrame m #[(.ref r0), (.int p1)] 2))
 rw [ef_5]
 show oF (s₁.setTop (mkF m 0 #[oR r0, oI p1] []))
 have K0 := Keep.refl h0 [r0]
 refine own_go (fun _ k => XS.aloadN X0.here hx rfl (hb hby d5_0) rfl rfl k) ?_
 obtain ⟨T1, X1, e1, st1⟩ := initO X0 hx hZ hown (oW hw 41 rfl) (oW hw 21 rfl) (oW hw 22 rfl) e0 (g := (mkF m 1 #[oR r0, oI p1] [(.ref r0)])) rfl (by rw [hml]; rfl) rfl (hb hby d5_1) (by decide) (W := 0) (by show 2 * 0 + _ ≤ _; exact Nat.le_of_eq rfl) (by decide)
 refine own_go (fun tg k => st1 tg k) ?_
 show oF (T1.setTop (mkF m 4 #[oR r0, oI p1] []))
 refine own_go (fun _ k => XS.aloadN X1.here hx rfl (hb hby d5_4) rfl rfl k) ?_
 obtain ⟨T2, h2, X2, e2, E2, A2, D2, -, st2⟩ := newO X1 hx hZ hown (oW hw 42 rfl) (oW hw 43 rfl) (oW hw 44 rfl) e1 (g := (mkF m 5 #[oR r0, oI p1] [(.ref r0)])) rfl (hb hby d5_5) (by decide) (by decide)
 obtain ⟨b2, g2⟩ : ∃ z, z = h0.size := ⟨_, rfl⟩
 rw [← g2] at A2 D2 st2
 have ne_r0_b2 : r0 ≠ b2 := Nat.ne_of_lt (Nat.lt_of_lt_of_le E_r0_0.lt (Nat.le_of_eq g2.symm))
 have ge_b2 : n0 ≤ b2 := Nat.le_trans Z0 (Nat.le_of_eq g2.symm)
 have sz_b2 : h0.size ≤ b2 := Nat.le_trans K0.1 (Nat.le_of_eq g2.symm)
 have E_r0_2 := E_r0_0.ext E2
 have F_words_r0_2 := F_words_r0_0.ext E2
 have F_held_r0_2 := F_held_r0_0.ext E2
 have F_blocks_r0_2 := F_blocks_r0_0.ext E2
 have F_sorted_r0_2 := F_sorted_r0_0.ext E2
 have K2 := K0.ext E2
 have Z2 : n0 ≤ h2.size := Nat.le_trans Z0 E2.1
 have E_b2_2 : Exa Z h2 b2 oC3 := A2
 have F_indices_b2_2 : Fld Z h2 b2 oC3 "indices" "[I" .null := D2 (Or.inl (oW hw 51 rfl)) (ty := (.array .int)) (by decide)
 have F_size_b2_2 : Fld Z h2 b2 oC3 "size" "I" (.int 0) := D2 (Or.inl (oW hw 114 rfl)) (ty := .int) (by decide)
 refine own_go (fun tg k => st2 tg k) ?_
 refine own_go (fun _ k => XS.dup X2.here hx rfl (hb hby d5_8) rfl rfl k) ?_
 have cq := X2.specialBack hx (y := oM5) rfl hown (mvT hZ (oW hw 45 rfl)) (mvT hZ (oW hw 46 rfl)) (mvT hZ (oW hw 47 rfl)) (by decide) (backOf (W := 2) (rm6 l Z a0 hw [] b2 h2 n0 Z2 E_b2_2 F_indices_b2_2 F_size_b2_2 ge_b2) hZ (oW hw 47 rfl) (oW hw 44 rfl) (by decide) (by decide)) (g := (mkF m 9 #[oR r0, oI p1] [(.ref b2), (.ref b2), (.ref r0)])) rfl (by rw [hml]; rfl) (Steps.refl _) (a := b2) (argsL := []) (rest := [(.ref b2), (.ref r0)]) (lenOf own_pd158 rfl) rfl (by show 2 * 0 + _ ≤ _; exact Nat.le_of_eq rfl) (hb hby d5_9) (fun _ _ => ⟨rfl, e2, (by decide : 1 + 1 ≤ _), (by decide : 2 + 16 ≤ _)⟩)
 obtain ⟨_, _, ⟨T3, L3, k3, n3⟩, -, X3, ⟨Lc3, hQ3, l3, y3, z3⟩, st3⟩ := cq
 dsimp only [Pt.U, Pt.locs, Pt.cells, Pt.slots] at X3 l3 y3 z3 st3 hQ3
 replace y3 : 2 = k3 := y3.symm
 replace z3 : 18 = n3 := z3.symm
 subst y3 z3
 obtain ⟨b3b, rfl, N3q, Kq3, szq_b3b, E_b2_3, F_indices_b2_3, F_size_b2_3, A_b3b_3⟩ := hQ3
 have N3 : Fr n0 L3 := by rw [l3]; exact Fr.app N0 N3q
 have ne_r0_b3b : r0 ≠ b3b := Nat.ne_of_lt (Nat.lt_of_lt_of_le E_r0_2.lt szq_b3b)
 have ne_b2_b3b : b2 ≠ b3b := Nat.ne_of_lt (Nat.lt_of_lt_of_le E_b2_2.lt szq_b3b)
 have ge_b3b : n0 ≤ b3b := Nat.le_trans Z2 szq_b3b
 have sz_b3b : h0.size ≤ b3b := Nat.le_trans K2.1 szq_b3b
 have E_r0_3 := E_r0_2.keep Kq3
 have F_words_r0_3 := F_words_r0_2.keep Kq3 (ninS ne_r0_b2 nin0)
 have F_held_r0_3 := F_held_r0_2.keep Kq3 (ninS ne_r0_b2 nin0)
 have F_blocks_r0_3 := F_blocks_r0_2.keep Kq3 (ninS ne_r0_b2 nin0)
 have F_sorted_r0_3 := F_sorted_r0_2.keep Kq3 (ninS ne_r0_b2 nin0)
 have K3 := Keep.trans K2 Kq3 (allS (Or.inr sz_b2) all0)
 have Z3 : n0 ≤ T3.heap.size := Nat.le_trans Z2 Kq3.1
 refine own_go (fun tg k => st3.trans k) ?_
 show oF (T3.setTop (mkF m 12 #[oR r0, oI p1] [(.ref b2), (.ref r0)]))
 obtain ⟨T4, h4, X4, e4, W4, st4⟩ := putF X3 hx hZ hown (host := "") (Or.inl (oW hw 52 rfl)) Via.refl rfl F_blocks_r0_3 E_r0_3 (Or.inr ⟨(oW hw 53 rfl), rfl, hnm⟩) (oW hw 32 rfl) (ty := (.object oC3)) (by decide) rfl rfl (g := (mkF m 12 #[oR r0, oI p1] [(.ref b2), (.ref r0)])) rfl rfl (hb hby d5_12)
 have E_r0_4 := E_r0_3.wr W4
 have F_words_r0_4 := F_words_r0_3.other W4 (Or.inr (own_sn159 hw))
 have F_held_r0_4 := F_held_r0_3.other W4 (Or.inr (own_sn160 hw))
 have F_sorted_r0_4 := F_sorted_r0_3.other W4 (Or.inr (own_sn161 hw))
 have E_b2_4 := E_b2_3.wr W4
 have F_indices_b2_4 := F_indices_b2_3.other W4 (Or.inl (Ne.symm ne_r0_b2))
 have F_size_b2_4 := F_size_b2_3.other W4 (Or.inl (Ne.symm ne_r0_b2))
 have A_b3b_4 := A_b3b_3.other W4 (Ne.symm ne_r0_b3b)
 have K4 := K3.wr W4 (Or.inl (List.mem_of_getElem? (i := 0) rfl))
 have N4 := Fr.snoc X4 N3 ge_r0
 have Z4 : n0 ≤ h4.size := Nat.le_trans Z3 (Keep.of_wr W4).1
 have F_blocks_r0_4 := F_blocks_r0_3.same W4
 refine own_go (fun tg k => st4 tg k) ?_
 refine own_go (fun _ k => XS.aloadN X4.here hx rfl (hb hby d5_15) rfl rfl (XS.iconst X4.here hx rfl (hb hby d5_16) k)) ?_
 obtain ⟨T5, h5, X5, e5, W5, st5⟩ := putFN X4 hx hZ hown (oW hw 54 rfl) Via.refl e4 F_sorted_r0_4 E_r0_4 (Or.inl (oW hw 55 rfl)) (oW hw 32 rfl) (ty := .boolean) (v' := (.int 1)) (by decide) rfl (by decide) (g := (mkF m 17 #[oR r0, oI p1] [(.int 1), (.ref r0)])) rfl rfl (hb hby d5_17)
 have E_r0_5 := E_r0_4.wr W5
 have F_words_r0_5 := F_words_r0_4.other W5 (Or.inr (own_sn162 hw))
 have F_held_r0_5 := F_held_r0_4.other W5 (Or.inr (own_sn163 hw))
 have F_blocks_r0_5 := F_blocks_r0_4.other W5 (Or.inr (own_sn164 hw))
 have E_b2_5 := E_b2_4.wr W5
 have F_indices_b2_5 := F_indices_b2_4.other W5 (Or.inl (Ne.symm ne_r0_b2))
 have F_size_b2_5 := F_size_b2_4.other W5 (Or.inl (Ne.symm ne_r0_b2))
 have A_b3b_5 := A_b3b_4.other W5 (Ne.symm ne_r0_b3b)
 have K5 := K4.wr W5 (Or.inl (List.mem_of_getElem? (i := 0) rfl))
 have N5 := Fr.snoc X5 N4 ge_r0
 have Z5 : n0 ≤ h5.size := Nat.le_trans Z4 (Keep.of_wr W5).1
 have F_sorted_r0_5 := F_sorted_r0_4.same W5
 refine own_go (fun tg k => st5 tg k) ?_
 refine own_go (fun _ k => XS.aloadN X5.here hx rfl (hb hby d5_20) rfl rfl (XS.iloadN X5.here hx rfl (hb hby d5_21) rfl (XS.bipush X5.here hx rfl (hb hby d5_22) (XS.imul X5.here hx rfl (hb hby d5_24) rfl k)))) ?_
 have cq := newP X5 hx hZ (oW hw 56 rfl) e5 (g := (mkF m 25 #[oR r0, oI p1] [(.int (p1 * (16 : Int32))), (.ref r0)])) rfl (hb hby d5_25) rfl (own_m48 hb3).1.1 (cap := 48) (own_m48 hb3).1.2 (by decide) (by decide) (by decide)
 obtain ⟨T6, h6, k6, X6, e6, E6, A6, st6⟩ := cq
 obtain ⟨b6, g6⟩ : ∃ z, z = h5.size := ⟨_, rfl⟩
 rw [← g6] at A6 st6
 have ne_r0_b6 : r0 ≠ b6 := Nat.ne_of_lt (Nat.lt_of_lt_of_le E_r0_5.lt (Nat.le_of_eq g6.symm))
 have ne_b2_b6 : b2 ≠ b6 := Nat.ne_of_lt (Nat.lt_of_lt_of_le E_b2_5.lt (Nat.le_of_eq g6.symm))
 have ne_b3b_b6 : b3b ≠ b6 := Nat.ne_of_lt (Nat.lt_of_lt_of_le A_b3b_5.lt (Nat.le_of_eq g6.symm))
 have ge_b6 : n0 ≤ b6 := Nat.le_trans Z5 (Nat.le_of_eq g6.symm)
 have sz_b6 : h0.size ≤ b6 := Nat.le_trans K5.1 (Nat.le_of_eq g6.symm)
 have E_r0_6 := E_r0_5.ext E6
 have F_words_r0_6 := F_words_r0_5.ext E6
 have F_held_r0_6 := F_held_r0_5.ext E6
 have F_blocks_r0_6 := F_blocks_r0_5.ext E6
 have F_sorted_r0_6 := F_sorted_r0_5.ext E6
 have E_b2_6 := E_b2_5.ext E6
 have F_indices_b2_6 := F_indices_b2_5.ext E6
 have F_size_b2_6 := F_size_b2_5.ext E6
 have A_b3b_6 := A_b3b_5.ext E6
 have K6 := K5.ext E6
 have Z6 : n0 ≤ h6.size := Nat.le_trans Z5 E6.1
 have A_b6_6 : own_Arf Z h6 b6 .long (p1 * (16 : Int32)) (fun i => .long ((fun _ => (0 : Int64)) i)) := own_Arf.new A6 (own_m48 hb3).1.1
 refine own_go (fun tg k => st6 tg k) ?_
 obtain ⟨T7, h7, X7, e7, W7, st7⟩ := putF X6 hx hZ hown (host := "") (Or.inl (oW hw 57 rfl)) Via.refl e6 F_words_r0_6 E_r0_6 (Or.inr ⟨(oW hw 58 rfl), rfl, hnm⟩) (oW hw 32 rfl) (ty := (.array .long)) (by decide) rfl rfl (g := (mkF m 27 #[oR r0, oI p1] [(.ref b6), (.ref r0)])) rfl rfl (hb hby d5_27)
 have E_r0_7 := E_r0_6.wr W7
 have F_held_r0_7 := F_held_r0_6.other W7 (Or.inr (own_sn165 hw))
 have F_blocks_r0_7 := F_blocks_r0_6.other W7 (Or.inr (own_sn166 hw))
 have F_sorted_r0_7 := F_sorted_r0_6.other W7 (Or.inr (own_sn167 hw))
 have E_b2_7 := E_b2_6.wr W7
 have F_indices_b2_7 := F_indices_b2_6.other W7 (Or.inl (Ne.symm ne_r0_b2))
 have F_size_b2_7 := F_size_b2_6.other W7 (Or.inl (Ne.symm ne_r0_b2))
 have A_b3b_7 := A_b3b_6.other W7 (Ne.symm ne_r0_b3b)
 have A_b6_7 := A_b6_6.other W7 (Ne.symm ne_r0_b6)
 have K7 := K6.wr W7 (Or.inl (List.mem_of_getElem? (i := 0) rfl))
 have N7 := Fr.snoc X7 N5 ge_r0
 have Z7 : n0 ≤ h7.size := Nat.le_trans Z6 (Keep.of_wr W7).1
 have F_words_r0_7 := F_words_r0_6.same W7
 refine own_go (fun tg k => st7 tg k) ?_
 refine own_go (fun _ k => XS.aloadN X7.here hx rfl (hb hby d5_30) rfl rfl (XS.iloadN X7.here hx rfl (hb hby d5_31) rfl k)) ?_
 obtain ⟨T8, h8, k8, X8, e8, E8, A8, st8⟩ := newP X7 hx hZ (oW hw 59 rfl) e7 (g := (mkF m 32 #[oR r0, oI p1] [(.int p1), (.ref r0)])) rfl (hb hby d5_32) rfl (own_m48 hb3).2.1 (cap := 3) (own_m48 hb3).2.2 (by decide) (by decide) (by decide)
 obtain ⟨b8, g8⟩ : ∃ z, z = h7.size := ⟨_, rfl⟩
 rw [← g8] at A8 st8
 have ne_r0_b8 : r0 ≠ b8 := Nat.ne_of_lt (Nat.lt_of_lt_of_le E_r0_7.lt (Nat.le_of_eq g8.symm))
 have ne_b2_b8 : b2 ≠ b8 := Nat.ne_of_lt (Nat.lt_of_lt_of_le E_b2_7.lt (Nat.le_of_eq g8.symm))
 have ne_b3b_b8 : b3b ≠ b8 := Nat.ne_of_lt (Nat.lt_of_lt_of_le A_b3b_7.lt (Nat.le_of_eq g8.symm))
 have ne_b6_b8 : b6 ≠ b8 := Nat.ne_of_lt (Nat.lt_of_lt_of_le A_b6_7.lt (Nat.le_of_eq g8.symm))
 have ge_b8 : n0 ≤ b8 := Nat.le_trans Z7 (Nat.le_of_eq g8.symm)
 have sz_b8 : h0.size ≤ b8 := Nat.le_trans K7.1 (Nat.le_of_eq g8.symm)
 have E_r0_8 := E_r0_7.ext E8
 have F_words_r0_8 := F_words_r0_7.ext E8
 have F_held_r0_8 := F_held_r0_7.ext E8
 have F_blocks_r0_8 := F_blocks_r0_7.ext E8
 have F_sorted_r0_8 := F_sorted_r0_7.ext E8
 have E_b2_8 := E_b2_7.ext E8
 have F_indices_b2_8 := F_indices_b2_7.ext E8
 have F_size_b2_8 := F_size_b2_7.ext E8
 have A_b3b_8 := A_b3b_7.ext E8
 have A_b6_8 := A_b6_7.ext E8
 have K8 := K7.ext E8
 have Z8 : n0 ≤ h8.size := Nat.le_trans Z7 E8.1
 have A_b8_8 : own_Arf Z h8 b8 .boolean p1 (fun i => .int ((fun _ => (0 : Int32)) i)) := own_Arf.new A8 (own_m48 hb3).2.1
 refine own_go (fun tg k => st8 tg k) ?_
 obtain ⟨T9, h9, X9, e9, W9, st9⟩ := putF X8 hx hZ hown (host := "") (Or.inl (oW hw 60 rfl)) Via.refl e8 F_held_r0_8 E_r0_8 (Or.inr ⟨(oW hw 61 rfl), rfl, hnm⟩) (oW hw 32 rfl) (ty := (.array .boolean)) (by decide) rfl rfl (g := (mkF m 34 #[oR r0, oI p1] [(.ref b8), (.ref r0)])) rfl rfl (hb hby d5_34)
 have E_r0_9 := E_r0_8.wr W9
 have F_words_r0_9 := F_words_r0_8.other W9 (Or.inr (own_sn168 hw))
 have F_blocks_r0_9 := F_blocks_r0_8.other W9 (Or.inr (own_sn169 hw))
 have F_sorted_r0_9 := F_sorted_r0_8.other W9 (Or.inr (own_sn170 hw))
 have E_b2_9 := E_b2_8.wr W9
 have F_indices_b2_9 := F_indices_b2_8.other W9 (Or.inl (Ne.symm ne_r0_b2))
 have F_size_b2_9 := F_size_b2_8.other W9 (Or.inl (Ne.symm ne_r0_b2))
 have A_b3b_9 := A_b3b_8.other W9 (Ne.symm ne_r0_b3b)
 have A_b6_9 := A_b6_8.other W9 (Ne.symm ne_r0_b6)
 have A_b8_9 := A_b8_8.other W9 (Ne.symm ne_r0_b8)
 have K9 := K8.wr W9 (Or.inl (List.mem_of_getElem? (i := 0) rfl))
 have N9 := Fr.snoc X9 N7 ge_r0
 have Z9 : n0 ≤ h9.size := Nat.le_trans Z8 (Keep.of_wr W9).1
 have F_held_r0_9 := F_held_r0_8.same W9
 refine own_go (fun tg k => st9 tg k) ?_
 refine own_retV X9 hx hlk Bd.returns (hb hby d5_37) (Nat.le_of_ble_eq_true rfl) (Nat.le_of_ble_eq_true rfl) ?_
 rw [e9]
 refine ⟨b2, b3b, b6, b8, rfl, N9, K9, sz_b2, sz_b3b, sz_b6, sz_b8, E_r0_9, ?_, ?_, ?_, ?_, E_b2_9, ?_, ?_, ?_, ?_, ?_⟩
 · (exact F_words_r0_9)
 · (exact F_held_r0_9)
 · (exact F_blocks_r0_9)
 · (exact F_sorted_r0_9)
 · (exact F_indices_b2_9)
 · (exact F_size_b2_9)
 · (exact A_b3b_9)
 · (exact A_b6_9)
 · (exact A_b8_9)
theorem own_pd194 : parseMethodDescriptor "()I" = some ⟨[], some .int⟩ := by decide +kernel
theorem d12_0 : oQ oD11 0 (.aload_n 0) 1 := by decide +kernel
theorem d12_1 : oQ oD11 1 (.getfield 14) 3 := by decide +kernel
theorem d12_4 : oQ oD11 4 (.invokevirtual 36) 3 := by decide +kernel
theorem d12_7 : oQ oD11 7 .ireturn 1 := by decide +kernel
theorem pn_12 : plainName oC1 = true := by first | (simp [plainName, overriddenIn]; done) | decide +kernel
theorem ef_12 (m : MethodId) (r0 : Addr) : entryFrame m #[(.ref r0)] 1 = mkF m 0 #[oR r0] [] := by first | (simp [entryFrame, mkF, argsToLocals, Value.category]; done) | rfl
def rm12_room : Room := { frames := 1, cells := 0, slots := 0, locals := 12 }
def Qrm12 (Z : State) (r0 : Addr) (il : Addr) (x1 : Int32) (h0 : Heap) (n0 : Nat) (v : Option Value) (h : Heap) (L : List Loc) : Prop := v = some (.int x1) ∧ Fr n0 L ∧ h = h0
set_option maxRecDepth 65536 in
set_option maxHeartbeats 40000000 in
theorem rm12 (l : Launch) (Z : State) (a0 : Array Value) (hw : oH Z a0) (ws : List Jvm.Cond) (r0 : Addr) (il : Addr) (x1 : Int32) (h0 : Heap) (n0 : Nat) (Z0 : n0 ≤ h0.size) (F_blocks_r0_0 : Fld Z h0 r0 oC1 "blocks" oC5 (.ref il)) (E_il_0 : Exa Z h0 il oC3) (F_size_il_0 : Fld Z h0 il oC3 "size" "I" (.int x1)) :
    MetFree l oM11 (head1 (Jvm.Cond.code oM11 prog_49_method_6_code 1 (some .int) :: ws) rm12_room) (fun a U => a = #[(.ref r0)] ∧ Z.Warmed39 U.vm ∧ U.heap = h0) (fun _ _ _ _ _ => True) (fun _ U o U' => ∃ v L, o = .returned v ∧ Qrm12 Z r0 il x1 h0 n0 v U'.heap L ∧ FrameEnd U o U' L rm12_room.cells rm12_room.slots) := by
 refine MetFree.of_bodySF (plainFor_of_name pn_12) hisR ?_
 intro p e s m args below meth c s₁ Bd hml0 hP hK
 obtain ⟨rfl, hZ, hh⟩ := hP
 have hx := Bd.exec
 have hby := Bd.bytes
 have hml : c.maxLocals = 1 := hml0
 have hown : s.vm.findClass oC1 = some m.cls := findClass_of_methodNamed Bd.named
 have hnm := (name_of_methodNamed Bd.named Bd.method).1
 have hlk : meth.locks = false := BodyLoose.notSynchronized Bd
 have X0 : Stand p l e rm12_room s m #[(.ref r0)] below meth c s₁ [] 0 0 := Stand.of_body Bd
 have e0 : s₁.heap = h0 := by rw [← hh, Bd.state]; rfl
 have N0 := Fr.nil n0
 show own_Fin p.tables e below s (Qrm12 Z r0 il x1 h0 n0) rm12_room.cells rm12_room.slots (s₁.setTop (entryFrame m #[(.ref r0)] 1))
 rw [ef_12]
 show oF (s₁.setTop (mkF m 0 #[oR r0] []))
 refine own_go (fun _ k => XS.aloadN X0.here hx rfl (hb hby d12_0) rfl rfl k) ?_
 obtain ⟨T1, X1, e1, st1⟩ := getF X0 hx hZ hown (host := "") (Or.inl (oW hw 52 rfl)) Via.refl e0 F_blocks_r0_0 (g := (mkF m 1 #[oR r0] [(.ref r0)])) rfl rfl (hb hby d12_1)
 refine own_go (fun tg k => st1 tg k) ?_
 have cq := isOf hZ e1 E_il_0
 obtain ⟨cq2, kq2, q2a, q2b, q2c⟩ := cq
 have cq := X1.virtualBack hx (y := oM6) (z := oM6) hown (mvT hZ (oW hw 108 rfl)) (mvT hZ (oW hw 109 rfl)) (notFace_of_selects (args := #[]) (mvT hZ (oW hw 111 rfl))) (mvT hZ (oW hw 111 rfl)) (mvT hZ (oW hw 110 rfl)) (by decide) (backOf (W := 0) (rm13 l Z a0 hw [] il x1 h0 n0 Z0 F_size_il_0) hZ (oW hw 112 rfl) (oW hw 44 rfl) (by decide) (by decide)) q2a q2c (g := (mkF m 4 #[oR r0] [(.ref il)])) rfl (by rw [hml]; rfl) (Steps.refl _) (argsL := []) (rest := []) (lenOf own_pd194 rfl) rfl (by show 2 * 0 + _ ≤ _; exact Nat.le_of_eq rfl) (hb hby d12_4) (fun _ _ => ⟨rfl, e1, (by decide : 0 + 0 ≤ _), (by decide : 0 + 0 ≤ _)⟩)
 obtain ⟨_, _, ⟨T2, L2, k2, n2⟩, -, X2, ⟨Lc2, hQ2, l2, y2, z2⟩, st2⟩ := cq
 dsimp only [Pt.U, Pt.locs, Pt.cells, Pt.slots] at X2 l2 y2 z2 st2 hQ2
 replace y2 : 0 = k2 := y2.symm
 replace z2 : 0 = n2 := z2.symm
 subst y2 z2
 obtain ⟨rfl, N2q, e2⟩ := hQ2
 have N2 : Fr n0 L2 := by rw [l2]; exact Fr.app N0 N2q
 refine own_go (fun tg k => st2.trans k) ?_
 show oF (T2.setTop (mkF m 7 #[oR r0] [(.int x1)]))
 refine own_ret X2 hx hlk Bd.returns rfl (Or.inl ⟨rfl, by simp, _, rfl⟩) (hb hby d12_7) (Nat.le_of_ble_eq_true rfl) (Nat.le_of_ble_eq_true rfl) ?_
 refine ⟨?_, N2, e2⟩
 · rfl
theorem d20_0 : oQ oD12 0 (.aload_n 0) 1 := by decide +kernel
theorem d20_1 : oQ oD12 1 (.getfield 20) 3 := by decide +kernel
theorem d20_4 : oQ oD12 4 (.ifCond .ne 13) 3 := by decide +kernel
theorem d20_17 : oQ oD12 17 (.aload_n 0) 1 := by decide +kernel
theorem d20_18 : oQ oD12 18 (.getfield 14) 3 := by decide +kernel
theorem d20_21 : oQ oD12 21 (.iload_n 1) 1 := by decide +kernel
theorem d20_22 : oQ oD12 22 (.invokevirtual 40) 3 := by decide +kernel
theorem d20_25 : oQ oD12 25 .ireturn 1 := by decide +kernel
theorem pn_20 : plainName oC1 = true := by first | (simp [plainName, overriddenIn]; done) | decide +kernel
theorem ef_20 (m : MethodId) (r0 : Addr) (p1 : Int32) : entryFrame m #[(.ref r0), (.int p1)] 2 = mkF m 0 #[oR r0, oI p1] [] := by first | (simp [entryFrame, mkF, argsToLocals, Value.category]; done) | rfl
def rm20_room : Room := { frames := 1, cells := 0, slots := 0, locals := 13 }
def Qrm20 (Z : State) (r0 : Addr) (p1 : Int32) (il : Addr) (ix : Addr) (fi : Nat → Int32) (h0 : Heap) (n0 : Nat) (v : Option Value) (h : Heap) (L : List Loc) : Prop := v = some (.int (fi p1.toNatClampNeg)) ∧ Fr n0 L ∧ h = h0
set_option maxRecDepth 65536 in
set_option maxHeartbeats 40000000 in
theorem rm20 (l : Launch) (Z : State) (a0 : Array Value) (hw : oH Z a0) (ws : List Jvm.Cond) (r0 : Addr) (p1 : Int32) (il : Addr) (ix : Addr) (fi : Nat → Int32) (h0 : Heap) (n0 : Nat) (Z0 : n0 ≤ h0.size) (F_sorted_r0_0 : Fld Z h0 r0 oC1 "sorted" "Z" (.int 1)) (F_blocks_r0_0 : Fld Z h0 r0 oC1 "blocks" oC5 (.ref il)) (E_il_0 : Exa Z h0 il oC3) (F_indices_il_0 : Fld Z h0 il oC3 "indices" "[I" (.ref ix)) (A_ix_0 : own_Arf Z h0 ix .int (16 : Int32) (fun i => .int (fi i))) (hp : ¬ p1 < 0 ∧ p1 < (16 : Int32)) :
    MetFree l oM12 (head1 (Jvm.Cond.code oM12 prog_49_method_7_code 2 (some .int) :: ws) rm20_room) (fun a U => a = #[(.ref r0), (.int p1)] ∧ Z.Warmed39 U.vm ∧ U.heap = h0) (fun _ _ _ _ _ => True) (fun _ U o U' => ∃ v L, o = .returned v ∧ Qrm20 Z r0 p1 il ix fi h0 n0 v U'.heap L ∧ FrameEnd U o U' L rm20_room.cells rm20_room.slots) := by
 refine MetFree.of_bodySF (plainFor_of_name pn_20) hisR ?_
 intro p e s m args below meth c s₁ Bd hml0 hP hK
 obtain ⟨rfl, hZ, hh⟩ := hP
 have hx := Bd.exec
 have hby := Bd.bytes
 have hml : c.maxLocals = 2 := hml0
 have hown : s.vm.findClass oC1 = some m.cls := findClass_of_methodNamed Bd.named
 have hnm := (name_of_methodNamed Bd.named Bd.method).1
 have hlk : meth.locks = false := BodyLoose.notSynchronized Bd
 have X0 : Stand p l e rm20_room s m #[(.ref r0), (.int p1)] below meth c s₁ [] 0 0 := Stand.of_body Bd
 have e0 : s₁.heap = h0 := by rw [← hh, Bd.state]; rfl
 have N0 := Fr.nil n0
 show own_Fin p.tables e below s (Qrm20 Z r0 p1 il ix fi h0 n0) rm20_room.cells rm20_room.slots (s₁.setTop (entryFrame m #[(.ref r0), (.int p1)] 2))
 rw [ef_20]
 show oF (s₁.setTop (mkF m 0 #[oR r0, oI p1] []))
 refine own_go (fun _ k => XS.aloadN X0.here hx rfl (hb hby d20_0) rfl rfl k) ?_
 obtain ⟨T1, X1, e1, st1⟩ := getF X0 hx hZ hown (host := "") (Or.inl (oW hw 54 rfl)) Via.refl e0 F_sorted_r0_0 (g := (mkF m 1 #[oR r0, oI p1] [(.ref r0)])) rfl rfl (hb hby d20_1)
 refine own_go (fun tg k => st1 tg k) ?_
 refine own_go (fun _ k => XS.ifYes X1.here hx rfl (pc0 := 4) (pc' := 17) rfl (hb hby d20_4) rfl ((if0 _ _).trans (feq (by decide)).2) (by decide) (by decide) (XS.aloadN X1.here hx rfl (hb hby d20_17) rfl rfl k)) ?_
 obtain ⟨T2, X2, e2, st2⟩ := getF X1 hx hZ hown (host := "") (Or.inl (oW hw 52 rfl)) Via.refl e1 F_blocks_r0_0 (g := (mkF m 18 #[oR r0, oI p1] [(.ref r0)])) rfl rfl (hb hby d20_18)
 refine own_go (fun tg k => st2 tg k) ?_
 refine own_go (fun _ k => XS.iloadN X2.here hx rfl (hb hby d20_21) rfl k) ?_
 have cq := isOf hZ e2 E_il_0
 obtain ⟨cq3, kq3, q3a, q3b, q3c⟩ := cq
 have cq := X2.virtualBack hx (y := oM7) (z := oM7) hown (mvT hZ (oW hw 160 rfl)) (mvT hZ (oW hw 161 rfl)) (notFace_of_selects (args := #[]) (mvT hZ (oW hw 163 rfl))) (mvT hZ (oW hw 163 rfl)) (mvT hZ (oW hw 162 rfl)) (by decide) (backOf (W := 0) (rm21 l Z a0 hw [] il p1 ix fi h0 n0 Z0 F_indices_il_0 A_ix_0 hp) hZ (oW hw 164 rfl) (oW hw 44 rfl) (by decide) (by decide)) q3a q3c (g := (mkF m 22 #[oR r0, oI p1] [(.int p1), (.ref il)])) rfl (by rw [hml]; rfl) (Steps.refl _) (argsL := [(.int p1)]) (rest := []) (lenOf own_pd90 rfl) rfl (by show 2 * 0 + _ ≤ _; exact Nat.le_of_eq rfl) (hb hby d20_22) (fun _ _ => ⟨rfl, e2, (by decide : 0 + 0 ≤ _), (by decide : 0 + 0 ≤ _)⟩)
 obtain ⟨_, _, ⟨T3, L3, k3, n3⟩, -, X3, ⟨Lc3, hQ3, l3, y3, z3⟩, st3⟩ := cq
 dsimp only [Pt.U, Pt.locs, Pt.cells, Pt.slots] at X3 l3 y3 z3 st3 hQ3
 replace y3 : 0 = k3 := y3.symm
 replace z3 : 0 = n3 := z3.symm
 subst y3 z3
 obtain ⟨rfl, N3q, e3⟩ := hQ3
 have N3 : Fr n0 L3 := by rw [l3]; exact Fr.app N0 N3q
 refine own_go (fun tg k => st3.trans k) ?_
 show oF (T3.setTop (mkF m 25 #[oR r0, oI p1] [(.int (fi p1.toNatClampNeg))]))
 refine own_ret X3 hx hlk Bd.returns rfl (Or.inl ⟨rfl, by simp, _, rfl⟩) (hb hby d20_25) (Nat.le_of_ble_eq_true rfl) (Nat.le_of_ble_eq_true rfl) ?_
 refine ⟨?_, N3, e3⟩
 · rfl
theorem d29_0 : oQ oD13 0 (.iload_n 1) 1 := by decide +kernel
theorem d29_1 : oQ oD13 1 (.iload_n 2) 1 := by decide +kernel
theorem d29_2 : oQ oD13 2 (.if_icmp .le 44) 3 := by decide +kernel
theorem d29_46 : oQ oD13 46 (.iload_n 1) 1 := by decide +kernel
theorem d29_47 : oQ oD13 47 (.ifCond .ge 12) 3 := by decide +kernel
theorem d29_59 : oQ oD13 59 (.iload_n 2) 1 := by decide +kernel
theorem d29_60 : oQ oD13 60 (.iload_n 0) 1 := by decide +kernel
theorem d29_61 : oQ oD13 61 (.if_icmp .le 12) 3 := by decide +kernel
theorem d29_73 : oQ oD13 73 .return_ 1 := by decide +kernel
theorem pn_29 : plainName oC11 = true := by first | (simp [plainName, overriddenIn]; done) | decide +kernel
theorem ef_29 (m : MethodId) (p0 : Int32) (p1 : Int32) (p2 : Int32) : entryFrame m #[(.int p0), (.int p1), (.int p2)] 3 = mkF m 0 #[oI p0, oI p1, oI p2] [] := by first | (simp [entryFrame, mkF, argsToLocals, Value.category]; done) | rfl
def rm29_room : Room := { frames := 0, cells := 0, slots := 0, locals := 0 }
def Qrm29 (Z : State) (p0 : Int32) (p1 : Int32) (p2 : Int32) (h0 : Heap) (n0 : Nat) (v : Option Value) (h : Heap) (L : List Loc) : Prop := v = none ∧ Fr n0 L ∧ h = h0
set_option maxRecDepth 65536 in
set_option maxHeartbeats 40000000 in
theorem rm29 (l : Launch) (Z : State) (a0 : Array Value) (hw : oH Z a0) (ws : List Jvm.Cond) (p0 : Int32) (p1 : Int32) (p2 : Int32) (h0 : Heap) (n0 : Nat) (Z0 : n0 ≤ h0.size) (h1 : ¬ (p2 < p1)) (h2 : ¬ (p1 < (0 : Int32))) (h3 : ¬ (p0 < p2)) :
    MetFree l oM13 (head1 (Jvm.Cond.code oM13 jdk_65_method_30_code 3 none :: ws) rm29_room) (fun a U => a = #[(.int p0), (.int p1), (.int p2)] ∧ Z.Warmed39 U.vm ∧ U.heap = h0) (fun _ _ _ _ _ => True) (fun _ U o U' => ∃ v L, o = .returned v ∧ Qrm29 Z p0 p1 p2 h0 n0 v U'.heap L ∧ FrameEnd U o U' L rm29_room.cells rm29_room.slots) := by
 refine MetFree.of_bodySF (plainFor_of_name pn_29) hisR ?_
 intro p e s m args below meth c s₁ Bd hml0 hP hK
 obtain ⟨rfl, hZ, hh⟩ := hP
 have hx := Bd.exec
 have hby := Bd.bytes
 have hml : c.maxLocals = 3 := hml0
 have hown : s.vm.findClass oC11 = some m.cls := findClass_of_methodNamed Bd.named
 have hnm := (name_of_methodNamed Bd.named Bd.method).1
 have hlk : meth.locks = false := BodyLoose.notSynchronized Bd
 have X0 : Stand p l e rm29_room s m #[(.int p0), (.int p1), (.int p2)] below meth c s₁ [] 0 0 := Stand.of_body Bd
 have e0 : s₁.heap = h0 := by rw [← hh, Bd.state]; rfl
 have N0 := Fr.nil n0
 show own_Fin p.tables e below s (Qrm29 Z p0 p1 p2 h0 n0) rm29_room.cells rm29_room.slots (s₁.setTop (entryFrame m #[(.int p0), (.int p1), (.int p2)] 3))
 rw [ef_29]
 show oF (s₁.setTop (mkF m 0 #[oI p0, oI p1, oI p2] []))
 refine own_go (fun _ k => XS.iloadN X0.here hx rfl (hb hby d29_0) rfl (XS.iloadN X0.here hx rfl (hb hby d29_1) rfl k)) ?_
 have hc2 : ¬ (p2 < p1) := h1
 refine own_go (fun _ k => XS.icmpYes X0.here hx rfl (pc0 := 2) (pc' := 46) rfl (hb hby d29_2) rfl (flt hc2).2.2.2 (by decide) (by decide) (XS.iloadN X0.here hx rfl (hb hby d29_46) rfl k)) ?_
 have hc47 : ¬ (p1 < (0 : Int32)) := h2
 refine own_go (fun _ k => XS.ifYes X0.here hx rfl (pc0 := 47) (pc' := 59) rfl (hb hby d29_47) rfl ((if0 _ _).trans (flt hc47).2.1) (by decide) (by decide) (XS.iloadN X0.here hx rfl (hb hby d29_59) rfl (XS.iloadN X0.here hx rfl (hb hby d29_60) rfl k))) ?_
 have hc61 : ¬ (p0 < p2) := h3
 refine own_go (fun _ k => XS.icmpYes X0.here hx rfl (pc0 := 61) (pc' := 73) rfl (hb hby d29_61) rfl (flt hc61).2.2.2 (by decide) (by decide) k) ?_
 refine own_retV X0 hx hlk Bd.returns (hb hby d29_73) (Nat.le_of_ble_eq_true rfl) (Nat.le_of_ble_eq_true rfl) ?_
 refine ⟨rfl, N0, e0⟩
theorem own_pd222 : parseMethodDescriptor "(III)V" = some ⟨[.int, .int, .int], none⟩ := by decide +kernel
theorem d28_0 : oQ oD14 0 (.aload_n 0) 1 := by decide +kernel
theorem d28_1 : oQ oD14 1 .arraylength 1 := by decide +kernel
theorem d28_2 : oQ oD14 2 (.iload_n 1) 1 := by decide +kernel
theorem d28_3 : oQ oD14 3 (.iload_n 2) 1 := by decide +kernel
theorem d28_4 : oQ oD14 4 (.invokestatic 13) 3 := by decide +kernel
theorem d28_7 : oQ oD14 7 (.iload_n 1) 1 := by decide +kernel
theorem d28_8 : oQ oD14 8 (.istore 4) 2 := by decide +kernel
theorem d28_10 : oQ oD14 10 (.iload 4) 2 := by decide +kernel
theorem d28_12 : oQ oD14 12 (.iload_n 2) 1 := by decide +kernel
theorem d28_13 : oQ oD14 13 (.if_icmp .ge 14) 3 := by decide +kernel
theorem d28_16 : oQ oD14 16 (.aload_n 0) 1 := by decide +kernel
theorem d28_17 : oQ oD14 17 (.iload 4) 2 := by decide +kernel
theorem d28_19 : oQ oD14 19 (.iload_n 3) 1 := by decide +kernel
theorem d28_20 : oQ oD14 20 .iastore 1 := by decide +kernel
theorem d28_21 : oQ oD14 21 (.iinc 4 1) 3 := by decide +kernel
theorem d28_24 : oQ oD14 24 (.goto (-14)) 3 := by decide +kernel
theorem d28_27 : oQ oD14 27 .return_ 1 := by decide +kernel
theorem pn_28 : plainName oC11 = true := by first | (simp [plainName, overriddenIn]; done) | decide +kernel
theorem ef_28 (m : MethodId) (r0 : Addr) (p1 : Int32) (p2 : Int32) (p3 : Int32) : entryFrame m #[(.ref r0), (.int p1), (.int p2), (.int p3)] 5 = mkF m 0 #[oR r0, oI p1, oI p2, oI p3, oU] [] := by first | (simp [entryFrame, mkF, argsToLocals, Value.category]; done) | rfl
def rm28_room : Room := { frames := 1, cells := 0, slots := 0, locals := 14 }
def Qrm28 (Z : State) (r0 : Addr) (p1 : Int32) (p2 : Int32) (p3 : Int32) (nA : Int32) (f : Nat → Int32) (h0 : Heap) (n0 : Nat) (v : Option Value) (h : Heap) (L : List Loc) : Prop := v = none ∧ Fr n0 L ∧ Keep h0 h [r0] ∧ own_Arf Z h r0 .int nA (fun i => .int ((own_fil f p1 p2 p3) i))
set_option maxRecDepth 65536 in
set_option maxHeartbeats 40000000 in
theorem rm28 (l : Launch) (Z : State) (a0 : Array Value) (hw : oH Z a0) (ws : List Jvm.Cond) (r0 : Addr) (p1 : Int32) (p2 : Int32) (p3 : Int32) (nA : Int32) (f : Nat → Int32) (h0 : Heap) (n0 : Nat) (Z0 : n0 ≤ h0.size) (A_r0_0 : own_Arf Z h0 r0 .int nA (fun i => .int (f i))) (ge_r0 : n0 ≤ r0) (hf : own_fb p1 p2 nA) :
    MetFree l oM14 (head1 (Jvm.Cond.code oM14 jdk_65_method_104_code 5 none :: ws) rm28_room) (fun a U => a = #[(.ref r0), (.int p1), (.int p2), (.int p3)] ∧ Z.Warmed39 U.vm ∧ U.heap = h0) (fun _ _ _ _ _ => True) (fun _ U o U' => ∃ v L, o = .returned v ∧ Qrm28 Z r0 p1 p2 p3 nA f h0 n0 v U'.heap L ∧ FrameEnd U o U' L rm28_room.cells rm28_room.slots) := by
 refine MetFree.of_bodySF (plainFor_of_name pn_28) hisR ?_
 intro p e s m args below meth c s₁ Bd hml0 hP hK
 obtain ⟨rfl, hZ, hh⟩ := hP
 have hx := Bd.exec
 have hby := Bd.bytes
 have hml : c.maxLocals = 5 := hml0
 have hown : s.vm.findClass oC11 = some m.cls := findClass_of_methodNamed Bd.named
 have hnm := (name_of_methodNamed Bd.named Bd.method).1
 have hlk : meth.locks = false := BodyLoose.notSynchronized Bd
 have X0 : Stand p l e rm28_room s m #[(.ref r0), (.int p1), (.int p2), (.int p3)] below meth c s₁ [] 0 0 := Stand.of_body Bd
 have e0 : s₁.heap = h0 := by rw [← hh, Bd.state]; rfl
 have N0 := Fr.nil n0
 show own_Fin p.tables e below s (Qrm28 Z r0 p1 p2 p3 nA f h0 n0) rm28_room.cells rm28_room.slots (s₁.setTop (entryFrame m #[(.ref r0), (.int p1), (.int p2), (.int p3)] 5))
 rw [ef_28]
 show oF (s₁.setTop (mkF m 0 #[oR r0, oI p1, oI p2, oI p3, oU] []))
 have K0 := Keep.refl h0 [r0]
 refine own_go (fun _ k => XS.aloadN X0.here hx rfl (hb hby d28_0) rfl rfl k) ?_
 refine own_go (fun tg k => own_alen X0 hx hZ e0 A_r0_0 (g := (mkF m 1 #[oR r0, oI p1, oI p2, oI p3, oU] [(.ref r0)])) rfl rfl (hb hby d28_1) tg k) ?_
 refine own_go (fun _ k => XS.iloadN X0.here hx rfl (hb hby d28_2) rfl (XS.iloadN X0.here hx rfl (hb hby d28_3) rfl k)) ?_
 have cq := Jvm.LawKit.callS X0 hx (y := oM13) hown (mvT hZ (oW hw 196 rfl)) (mvT hZ (oW hw 197 rfl)) (mvT hZ (oW hw 194 rfl)) (mvT hZ (oW hw 198 rfl)) (by decide) (backOf (W := 0) (rm29 l Z a0 hw [] nA p1 p2 h0 n0 Z0 hf.1 hf.2.1 hf.2.2) hZ (oW hw 198 rfl) (oW hw 194 rfl) (by decide) (by decide)) (g := (mkF m 4 #[oR r0, oI p1, oI p2, oI p3, oU] [(.int p2), (.int p1), (.int nA)])) rfl (by rw [hml]; rfl) (argsL := [(.int nA), (.int p1), (.int p2)]) (rest := []) (lenOf own_pd222 rfl) rfl (by show 2 * 0 + _ ≤ _; exact Nat.le_of_eq rfl) (hb hby d28_4) (fun _ _ => ⟨rfl, e0, (by decide : 0 + 0 ≤ _), (by decide : 0 + 0 ≤ _)⟩)
 obtain ⟨_, _, ⟨T1, L1, k1, n1⟩, -, X1, ⟨Lc1, hQ1, l1, y1, z1⟩, st1⟩ := cq
 dsimp only [Pt.U, Pt.locs, Pt.cells, Pt.slots] at X1 l1 y1 z1 st1 hQ1
 replace y1 : 0 = k1 := y1.symm
 replace z1 : 0 = n1 := z1.symm
 subst y1 z1
 obtain ⟨rfl, N1q, e1⟩ := hQ1
 have N1 : Fr n0 L1 := by rw [l1]; exact Fr.app N0 N1q
 refine own_go (fun tg k => st1 tg k) ?_
 show oF (T1.setTop (mkF m 7 #[oR r0, oI p1, oI p2, oI p3, oU] []))
 refine own_go (fun _ k => XS.iloadN X1.here hx rfl (hb hby d28_7) rfl (XS.istore X1.here hx rfl (hb hby d28_8) rfl (l' := #[oR r0, oI p1, oI p2, oI p3, oI p1]) rfl k)) ?_
 show oF (T1.setTop (mkF m 10 #[oR r0, oI p1, oI p2, oI p3, oI p1] []))
 have loopA : ∀ (kA : Nat) (i : Int32) (fL : Nat → Int32) (TAL : State) (LAL : List Loc) (hAL : Heap), kA = (p2.toInt - i.toInt).toNat → own_fL f p1 p2 p3 i fL → Stand p l e rm28_room s m #[(.ref r0), (.int p1), (.int p2), (.int p3)] below meth c TAL LAL 0 0 → Fr n0 LAL → TAL.heap = hAL → n0 ≤ hAL.size → Keep h0 hAL [r0] → own_Arf Z hAL r0 .int nA (fun i => .int (fL i)) → own_Fin p.tables e below s (Qrm28 Z r0 p1 p2 p3 nA f h0 n0) rm28_room.cells rm28_room.slots (TAL.setTop (mkF m 10 #[oR r0, oI p1, oI p2, oI p3, oI i] [])) := by
  intro kA
  induction kA using Nat.strongRecOn with
  | _ kA ihA =>
   intro i fL TAL LAL hAL hkA hL XAL NAL eAL ZAL KAL A_r0_AL
   show oF (TAL.setTop (mkF m 10 #[oR r0, oI p1, oI p2, oI p3, oI i] []))
   refine own_go (fun _ k => XS.iload XAL.here hx rfl (hb hby d28_10) rfl (XS.iloadN XAL.here hx rfl (hb hby d28_12) rfl k)) ?_
   by_cases hc2 : i < p2
   ·refine own_go (fun _ k => XS.icmpNo XAL.here hx rfl (hb hby d28_13) rfl (tlt hc2).2.1 (XS.aloadN XAL.here hx rfl (hb hby d28_16) rfl rfl (XS.iload XAL.here hx rfl (hb hby d28_17) rfl (XS.iloadN XAL.here hx rfl (hb hby d28_19) rfl k)))) ?_
    obtain ⟨T3, h3, X3, e3, W3, A_r0_3, st3⟩ := own_stI XAL hx hZ eAL A_r0_AL (j := i) (own_fLs hf hL hc2).2.2 (g := (mkF m 20 #[oR r0, oI p1, oI p2, oI p3, oI i] [(.int p3), (.int i), (.ref r0)])) rfl rfl (hb hby d28_20)
    have K3 := KAL.wr W3 (Or.inl (List.mem_of_getElem? (i := 0) rfl))
    have N3 := Fr.snoc X3 NAL ge_r0
    have Z3 : n0 ≤ h3.size := Nat.le_trans ZAL (Keep.of_wr W3).1
    refine own_go (fun tg k => st3 tg k) ?_
    refine own_go (fun _ k => XS.iinc X3.here hx rfl (hb hby d28_21) rfl (l' := #[oR r0, oI p1, oI p2, oI p3, .val (.int (i + (1 : Int32)))]) rfl (XS.goto X3.here hx rfl (pc0 := 24) (pc' := 10) rfl (hb hby d28_24) (by decide) (by decide) k)) ?_
    show oF (T3.setTop (mkF m 10 #[oR r0, oI p1, oI p2, oI p3, .val (.int (i + (1 : Int32)))] []))
    exact ihA _ (Nat.lt_of_lt_of_eq (own_fLs hf hL hc2).2.1 hkA.symm) ((i + (1 : Int32))) (own_set fL i p3) T3 _ h3 rfl (own_fLs hf hL hc2).1 (own_mono X3 (by decide) (by decide)) N3 e3 Z3 K3 A_r0_3
   ·refine own_go (fun _ k => XS.icmpYes XAL.here hx rfl (pc0 := 13) (pc' := 27) rfl (hb hby d28_13) rfl (flt hc2).2.1 (by decide) (by decide) k) ?_
    show oF (TAL.setTop (mkF m 27 #[oR r0, oI p1, oI p2, oI p3, oI i] []))
    refine own_retV XAL hx hlk Bd.returns (hb hby d28_27) (Nat.le_of_ble_eq_true rfl) (Nat.le_of_ble_eq_true rfl) ?_
    rw [eAL]
    refine ⟨rfl, NAL, KAL, ?_⟩
    · ( rw [← own_fLx hL hc2]; exact A_r0_AL)
 exact loopA _ (p1) f T1 _ h0 rfl (own_fL0 hf) (own_mono X1 (by decide) (by decide)) N1 e1 Z0 K0 A_r0_0
theorem d30_0 : oQ oD15 0 (.aload_n 0) 1 := by decide +kernel
theorem d30_1 : oQ oD15 1 .arraylength 1 := by decide +kernel
theorem d30_2 : oQ oD15 2 (.iload_n 1) 1 := by decide +kernel
theorem d30_3 : oQ oD15 3 (.iload_n 2) 1 := by decide +kernel
theorem d30_4 : oQ oD15 4 (.invokestatic 13) 3 := by decide +kernel
theorem d30_7 : oQ oD15 7 (.iload_n 1) 1 := by decide +kernel
theorem d30_8 : oQ oD15 8 (.istore 5) 2 := by decide +kernel
theorem d30_10 : oQ oD15 10 (.iload 5) 2 := by decide +kernel
theorem d30_12 : oQ oD15 12 (.iload_n 2) 1 := by decide +kernel
theorem d30_13 : oQ oD15 13 (.if_icmp .ge 14) 3 := by decide +kernel
theorem d30_16 : oQ oD15 16 (.aload_n 0) 1 := by decide +kernel
theorem d30_17 : oQ oD15 17 (.iload 5) 2 := by decide +kernel
theorem d30_19 : oQ oD15 19 (.lload_n 3) 1 := by decide +kernel
theorem d30_20 : oQ oD15 20 .lastore 1 := by decide +kernel
theorem d30_21 : oQ oD15 21 (.iinc 5 1) 3 := by decide +kernel
theorem d30_24 : oQ oD15 24 (.goto (-14)) 3 := by decide +kernel
theorem d30_27 : oQ oD15 27 .return_ 1 := by decide +kernel
theorem pn_30 : plainName oC11 = true := by first | (simp [plainName, overriddenIn]; done) | decide +kernel
theorem ef_30 (m : MethodId) (r0 : Addr) (p1 : Int32) (p2 : Int32) (q3 : Int64) : entryFrame m #[(.ref r0), (.int p1), (.int p2), (.long q3)] 6 = mkF m 0 #[oR r0, oI p1, oI p2, oJ q3, oS, oU] [] := by first | (simp [entryFrame, mkF, argsToLocals, Value.category]; done) | rfl
def rm30_room : Room := { frames := 1, cells := 0, slots := 0, locals := 14 }
def Qrm30 (Z : State) (r0 : Addr) (p1 : Int32) (p2 : Int32) (q3 : Int64) (nA : Int32) (f : Nat → Int64) (h0 : Heap) (n0 : Nat) (v : Option Value) (h : Heap) (L : List Loc) : Prop := v = none ∧ Fr n0 L ∧ Keep h0 h [r0] ∧ own_Arf Z h r0 .long nA (fun i => .long ((own_fil f p1 p2 q3) i))
set_option maxRecDepth 65536 in
set_option maxHeartbeats 40000000 in
theorem rm30 (l : Launch) (Z : State) (a0 : Array Value) (hw : oH Z a0) (ws : List Jvm.Cond) (r0 : Addr) (p1 : Int32) (p2 : Int32) (q3 : Int64) (nA : Int32) (f : Nat → Int64) (h0 : Heap) (n0 : Nat) (Z0 : n0 ≤ h0.size) (A_r0_0 : own_Arf Z h0 r0 .long nA (fun i => .long (f i))) (ge_r0 : n0 ≤ r0) (hf : own_fb p1 p2 nA) :
    MetFree l oM15 (head1 (Jvm.Cond.code oM15 jdk_65_method_102_code 6 none :: ws) rm30_room) (fun a U => a = #[(.ref r0), (.int p1), (.int p2), (.long q3)] ∧ Z.Warmed39 U.vm ∧ U.heap = h0) (fun _ _ _ _ _ => True) (fun _ U o U' => ∃ v L, o = .returned v ∧ Qrm30 Z r0 p1 p2 q3 nA f h0 n0 v U'.heap L ∧ FrameEnd U o U' L rm30_room.cells rm30_room.slots) := by
 refine MetFree.of_bodySF (plainFor_of_name pn_30) hisR ?_
 intro p e s m args below meth c s₁ Bd hml0 hP hK
 obtain ⟨rfl, hZ, hh⟩ := hP
 have hx := Bd.exec
 have hby := Bd.bytes
 have hml : c.maxLocals = 6 := hml0
 have hown : s.vm.findClass oC11 = some m.cls := findClass_of_methodNamed Bd.named
 have hnm := (name_of_methodNamed Bd.named Bd.method).1
 have hlk : meth.locks = false := BodyLoose.notSynchronized Bd
 have X0 : Stand p l e rm30_room s m #[(.ref r0), (.int p1), (.int p2), (.long q3)] below meth c s₁ [] 0 0 := Stand.of_body Bd
 have e0 : s₁.heap = h0 := by rw [← hh, Bd.state]; rfl
 have N0 := Fr.nil n0
 show own_Fin p.tables e below s (Qrm30 Z r0 p1 p2 q3 nA f h0 n0) rm30_room.cells rm30_room.slots (s₁.setTop (entryFrame m #[(.ref r0), (.int p1), (.int p2), (.long q3)] 6))
 rw [ef_30]
 show oF (s₁.setTop (mkF m 0 #[oR r0, oI p1, oI p2, oJ q3, oS, oU] []))
 have K0 := Keep.refl h0 [r0]
 refine own_go (fun _ k => XS.aloadN X0.here hx rfl (hb hby d30_0) rfl rfl k) ?_
 refine own_go (fun tg k => own_alen X0 hx hZ e0 A_r0_0 (g := (mkF m 1 #[oR r0, oI p1, oI p2, oJ q3, oS, oU] [(.ref r0)])) rfl rfl (hb hby d30_1) tg k) ?_
 refine own_go (fun _ k => XS.iloadN X0.here hx rfl (hb hby d30_2) rfl (XS.iloadN X0.here hx rfl (hb hby d30_3) rfl k)) ?_
 have cq := Jvm.LawKit.callS X0 hx (y := oM13) hown (mvT hZ (oW hw 196 rfl)) (mvT hZ (oW hw 197 rfl)) (mvT hZ (oW hw 194 rfl)) (mvT hZ (oW hw 198 rfl)) (by decide) (backOf (W := 0) (rm29 l Z a0 hw [] nA p1 p2 h0 n0 Z0 hf.1 hf.2.1 hf.2.2) hZ (oW hw 198 rfl) (oW hw 194 rfl) (by decide) (by decide)) (g := (mkF m 4 #[oR r0, oI p1, oI p2, oJ q3, oS, oU] [(.int p2), (.int p1), (.int nA)])) rfl (by rw [hml]; rfl) (argsL := [(.int nA), (.int p1), (.int p2)]) (rest := []) (lenOf own_pd222 rfl) rfl (by show 2 * 0 + _ ≤ _; exact Nat.le_of_eq rfl) (hb hby d30_4) (fun _ _ => ⟨rfl, e0, (by decide : 0 + 0 ≤ _), (by decide : 0 + 0 ≤ _)⟩)
 obtain ⟨_, _, ⟨T1, L1, k1, n1⟩, -, X1, ⟨Lc1, hQ1, l1, y1, z1⟩, st1⟩ := cq
 dsimp only [Pt.U, Pt.locs, Pt.cells, Pt.slots] at X1 l1 y1 z1 st1 hQ1
 replace y1 : 0 = k1 := y1.symm
 replace z1 : 0 = n1 := z1.symm
 subst y1 z1
 obtain ⟨rfl, N1q, e1⟩ := hQ1
 have N1 : Fr n0 L1 := by rw [l1]; exact Fr.app N0 N1q
 refine own_go (fun tg k => st1 tg k) ?_
 show oF (T1.setTop (mkF m 7 #[oR r0, oI p1, oI p2, oJ q3, oS, oU] []))
 refine own_go (fun _ k => XS.iloadN X1.here hx rfl (hb hby d30_7) rfl (XS.istore X1.here hx rfl (hb hby d30_8) rfl (l' := #[oR r0, oI p1, oI p2, oJ q3, oS, oI p1]) rfl k)) ?_
 show oF (T1.setTop (mkF m 10 #[oR r0, oI p1, oI p2, oJ q3, oS, oI p1] []))
 have loopA : ∀ (kA : Nat) (i : Int32) (fL : Nat → Int64) (TAL : State) (LAL : List Loc) (hAL : Heap), kA = (p2.toInt - i.toInt).toNat → own_fL f p1 p2 q3 i fL → Stand p l e rm30_room s m #[(.ref r0), (.int p1), (.int p2), (.long q3)] below meth c TAL LAL 0 0 → Fr n0 LAL → TAL.heap = hAL → n0 ≤ hAL.size → Keep h0 hAL [r0] → own_Arf Z hAL r0 .long nA (fun i => .long (fL i)) → own_Fin p.tables e below s (Qrm30 Z r0 p1 p2 q3 nA f h0 n0) rm30_room.cells rm30_room.slots (TAL.setTop (mkF m 10 #[oR r0, oI p1, oI p2, oJ q3, oS, oI i] [])) := by
  intro kA
  induction kA using Nat.strongRecOn with
  | _ kA ihA =>
   intro i fL TAL LAL hAL hkA hL XAL NAL eAL ZAL KAL A_r0_AL
   show oF (TAL.setTop (mkF m 10 #[oR r0, oI p1, oI p2, oJ q3, oS, oI i] []))
   refine own_go (fun _ k => XS.iload XAL.here hx rfl (hb hby d30_10) rfl (XS.iloadN XAL.here hx rfl (hb hby d30_12) rfl k)) ?_
   by_cases hc2 : i < p2
   ·refine own_go (fun _ k => XS.icmpNo XAL.here hx rfl (hb hby d30_13) rfl (tlt hc2).2.1 (XS.aloadN XAL.here hx rfl (hb hby d30_16) rfl rfl (XS.iload XAL.here hx rfl (hb hby d30_17) rfl (XS.lloadN XAL.here hx rfl (hb hby d30_19) rfl k)))) ?_
    obtain ⟨T3, h3, X3, e3, W3, A_r0_3, st3⟩ := own_stJ XAL hx hZ eAL A_r0_AL (j := i) (own_fLs hf hL hc2).2.2 (g := (mkF m 20 #[oR r0, oI p1, oI p2, oJ q3, oS, oI i] [(.long q3), (.int i), (.ref r0)])) rfl rfl (hb hby d30_20)
    have K3 := KAL.wr W3 (Or.inl (List.mem_of_getElem? (i := 0) rfl))
    have N3 := Fr.snoc X3 NAL ge_r0
    have Z3 : n0 ≤ h3.size := Nat.le_trans ZAL (Keep.of_wr W3).1
    refine own_go (fun tg k => st3 tg k) ?_
    refine own_go (fun _ k => XS.iinc X3.here hx rfl (hb hby d30_21) rfl (l' := #[oR r0, oI p1, oI p2, oJ q3, oS, .val (.int (i + (1 : Int32)))]) rfl (XS.goto X3.here hx rfl (pc0 := 24) (pc' := 10) rfl (hb hby d30_24) (by decide) (by decide) k)) ?_
    show oF (T3.setTop (mkF m 10 #[oR r0, oI p1, oI p2, oJ q3, oS, .val (.int (i + (1 : Int32)))] []))
    exact ihA _ (Nat.lt_of_lt_of_eq (own_fLs hf hL hc2).2.1 hkA.symm) ((i + (1 : Int32))) (own_set fL i q3) T3 _ h3 rfl (own_fLs hf hL hc2).1 (own_mono X3 (by decide) (by decide)) N3 e3 Z3 K3 A_r0_3
   ·refine own_go (fun _ k => XS.icmpYes XAL.here hx rfl (pc0 := 13) (pc' := 27) rfl (hb hby d30_13) rfl (flt hc2).2.1 (by decide) (by decide) k) ?_
    show oF (TAL.setTop (mkF m 27 #[oR r0, oI p1, oI p2, oJ q3, oS, oI i] []))
    refine own_retV XAL hx hlk Bd.returns (hb hby d30_27) (Nat.le_of_ble_eq_true rfl) (Nat.le_of_ble_eq_true rfl) ?_
    rw [eAL]
    refine ⟨rfl, NAL, KAL, ?_⟩
    · ( rw [← own_fLx hL hc2]; exact A_r0_AL)
 exact loopA _ (p1) f T1 _ h0 rfl (own_fL0 hf) (own_mono X1 (by decide) (by decide)) N1 e1 Z0 K0 A_r0_0
theorem d14_0 : oQ oD16 0 (.iconst 0) 1 := by decide +kernel
theorem d14_1 : oQ oD16 1 (.istore_n 1) 1 := by decide +kernel
theorem d14_2 : oQ oD16 2 (.iload_n 1) 1 := by decide +kernel
theorem d14_3 : oQ oD16 3 (.aload_n 0) 1 := by decide +kernel
theorem d14_4 : oQ oD16 4 (.getfield 14) 3 := by decide +kernel
theorem d14_7 : oQ oD16 7 (.invokevirtual 36) 3 := by decide +kernel
theorem d14_10 : oQ oD16 10 (.if_icmp .ge 43) 3 := by decide +kernel
theorem d14_53 : oQ oD16 53 (.aload_n 0) 1 := by decide +kernel
theorem d14_54 : oQ oD16 54 (.getfield 14) 3 := by decide +kernel
theorem d14_57 : oQ oD16 57 (.invokevirtual 69) 3 := by decide +kernel
theorem d14_60 : oQ oD16 60 (.aload_n 0) 1 := by decide +kernel
theorem d14_61 : oQ oD16 61 (.iconst 1) 1 := by decide +kernel
theorem d14_62 : oQ oD16 62 (.putfield 20) 3 := by decide +kernel
theorem d14_65 : oQ oD16 65 .return_ 1 := by decide +kernel
theorem pn_14 : plainName oC1 = true := by first | (simp [plainName, overriddenIn]; done) | decide +kernel
theorem ef_14 (m : MethodId) (r0 : Addr) : entryFrame m #[(.ref r0)] 3 = mkF m 0 #[oR r0, oU, oU] [] := by first | (simp [entryFrame, mkF, argsToLocals, Value.category]; done) | rfl
def rm14z_room : Room := { frames := 1, cells := 0, slots := 0, locals := 13 }
def Qrm14z (Z : State) (r0 : Addr) (wd : Addr) (hd : Addr) (il : Addr) (ix : Addr) (fi : Nat → Int32) (h0 : Heap) (n0 : Nat) (v : Option Value) (h : Heap) (L : List Loc) : Prop := v = none ∧ Fr n0 L ∧ Keep h0 h [r0, il] ∧ Exa Z h r0 oC1 ∧ Fld Z h r0 oC1 "words" "[J" (.ref wd) ∧ Fld Z h r0 oC1 "held" "[Z" (.ref hd) ∧ Fld Z h r0 oC1 "blocks" oC5 (.ref il) ∧ Fld Z h r0 oC1 "sorted" "Z" (.int 1) ∧ Exa Z h il oC3 ∧ Fld Z h il oC3 "indices" "[I" (.ref ix) ∧ Fld Z h il oC3 "size" "I" (.int 0)
set_option maxRecDepth 65536 in
set_option maxHeartbeats 40000000 in
theorem rm14z (l : Launch) (Z : State) (a0 : Array Value) (hw : oH Z a0) (ws : List Jvm.Cond) (r0 : Addr) (wd : Addr) (hd : Addr) (il : Addr) (ix : Addr) (fi : Nat → Int32) (h0 : Heap) (n0 : Nat) (Z0 : n0 ≤ h0.size) (E_r0_0 : Exa Z h0 r0 oC1) (F_words_r0_0 : Fld Z h0 r0 oC1 "words" "[J" (.ref wd)) (F_held_r0_0 : Fld Z h0 r0 oC1 "held" "[Z" (.ref hd)) (F_blocks_r0_0 : Fld Z h0 r0 oC1 "blocks" oC5 (.ref il)) (F_sorted_r0_0 : Fld Z h0 r0 oC1 "sorted" "Z" (.int 1)) (E_il_0 : Exa Z h0 il oC3) (F_indices_il_0 : Fld Z h0 il oC3 "indices" "[I" (.ref ix)) (F_size_il_0 : Fld Z h0 il oC3 "size" "I" (.int 0)) (A_ix_0 : own_Arf Z h0 ix .int (16 : Int32) (fun i => .int (fi i))) (ge_r0 : n0 ≤ r0) (ge_wd : n0 ≤ wd) (ge_hd : n0 ≤ hd) (ge_il : n0 ≤ il) (ge_ix : n0 ≤ ix) :
    MetFree l oM16 (head1 (Jvm.Cond.code oM16 prog_49_method_9_code 3 none :: ws) rm14z_room) (fun a U => a = #[(.ref r0)] ∧ Z.Warmed39 U.vm ∧ U.heap = h0) (fun _ _ _ _ _ => True) (fun _ U o U' => ∃ v L, o = .returned v ∧ Qrm14z Z r0 wd hd il ix fi h0 n0 v U'.heap L ∧ FrameEnd U o U' L rm14z_room.cells rm14z_room.slots) := by
 refine MetFree.of_bodySF (plainFor_of_name pn_14) hisR ?_
 intro p e s m args below meth c s₁ Bd hml0 hP hK
 obtain ⟨rfl, hZ, hh⟩ := hP
 have hx := Bd.exec
 have hby := Bd.bytes
 have hml : c.maxLocals = 3 := hml0
 have hown : s.vm.findClass oC1 = some m.cls := findClass_of_methodNamed Bd.named
 have hnm := (name_of_methodNamed Bd.named Bd.method).1
 have hlk : meth.locks = false := BodyLoose.notSynchronized Bd
 have X0 : Stand p l e rm14z_room s m #[(.ref r0)] below meth c s₁ [] 0 0 := Stand.of_body Bd
 have e0 : s₁.heap = h0 := by rw [← hh, Bd.state]; rfl
 have N0 := Fr.nil n0
 show own_Fin p.tables e below s (Qrm14z Z r0 wd hd il ix fi h0 n0) rm14z_room.cells rm14z_room.slots (s₁.setTop (entryFrame m #[(.ref r0)] 3))
 rw [ef_14]
 show oF (s₁.setTop (mkF m 0 #[oR r0, oU, oU] []))
 have K0 := Keep.refl h0 [r0, il]
 refine own_go (fun _ k => XS.iconst X0.here hx rfl (hb hby d14_0) (XS.istoreN X0.here hx rfl (hb hby d14_1) rfl (l' := #[oR r0, oI 0, oU]) rfl (XS.iloadN X0.here hx rfl (hb hby d14_2) rfl (XS.aloadN X0.here hx rfl (hb hby d14_3) rfl rfl k)))) ?_
 obtain ⟨T1, X1, e1, st1⟩ := getF X0 hx hZ hown (host := "") (Or.inl (oW hw 52 rfl)) Via.refl e0 F_blocks_r0_0 (g := (mkF m 4 #[oR r0, oI 0, oU] [(.ref r0), (.int 0)])) rfl rfl (hb hby d14_4)
 refine own_go (fun tg k => st1 tg k) ?_
 have cq := isOf hZ e1 E_il_0
 obtain ⟨cq2, kq2, q2a, q2b, q2c⟩ := cq
 have cq := X1.virtualBack hx (y := oM6) (z := oM6) hown (mvT hZ (oW hw 108 rfl)) (mvT hZ (oW hw 109 rfl)) (notFace_of_selects (args := #[]) (mvT hZ (oW hw 111 rfl))) (mvT hZ (oW hw 111 rfl)) (mvT hZ (oW hw 110 rfl)) (by decide) (backOf (W := 1) (rm13 l Z a0 hw [] il (0 : Int32) h0 n0 Z0 F_size_il_0) hZ (oW hw 112 rfl) (oW hw 44 rfl) (by decide) (by decide)) q2a q2c (g := (mkF m 7 #[oR r0, oI 0, oU] [(.ref il), (.int 0)])) rfl (by rw [hml]; rfl) (Steps.refl _) (argsL := []) (rest := [(.int 0)]) (lenOf own_pd194 rfl) rfl (by show 2 * 0 + _ ≤ _; exact Nat.le_of_eq rfl) (hb hby d14_7) (fun _ _ => ⟨rfl, e1, (by decide : 0 + 0 ≤ _), (by decide : 0 + 0 ≤ _)⟩)
 obtain ⟨_, _, ⟨T2, L2, k2, n2⟩, -, X2, ⟨Lc2, hQ2, l2, y2, z2⟩, st2⟩ := cq
 dsimp only [Pt.U, Pt.locs, Pt.cells, Pt.slots] at X2 l2 y2 z2 st2 hQ2
 replace y2 : 0 = k2 := y2.symm
 replace z2 : 0 = n2 := z2.symm
 subst y2 z2
 obtain ⟨rfl, N2q, e2⟩ := hQ2
 have N2 : Fr n0 L2 := by rw [l2]; exact Fr.app N0 N2q
 refine own_go (fun tg k => st2.trans k) ?_
 show oF (T2.setTop (mkF m 10 #[oR r0, oI 0, oU] [(.int 0), (.int 0)]))
 refine own_go (fun _ k => XS.icmpYes X2.here hx rfl (pc0 := 10) (pc' := 53) rfl (hb hby d14_10) rfl (flt (by decide)).2.1 (by decide) (by decide) k) ?_
 show oF (T2.setTop (mkF m 53 #[oR r0, oI 0, oU] []))
 refine own_go (fun _ k => XS.aloadN X2.here hx rfl (hb hby d14_53) rfl rfl k) ?_
 obtain ⟨T3, X3, e3, st3⟩ := getF X2 hx hZ hown (host := "") (Or.inl (oW hw 52 rfl)) Via.refl e2 F_blocks_r0_0 (g := (mkF m 54 #[oR r0, oI 0, oU] [(.ref r0)])) rfl rfl (hb hby d14_54)
 refine own_go (fun tg k => st3 tg k) ?_
 have cq := isOf hZ e3 E_il_0
 obtain ⟨cq4, kq4, q4a, q4b, q4c⟩ := cq
 have cq := X3.virtualBack hx (y := oM8) (z := oM8) hown (mvT hZ (oW hw 120 rfl)) (mvT hZ (oW hw 121 rfl)) (notFace_of_selects (args := #[]) (mvT hZ (oW hw 123 rfl))) (mvT hZ (oW hw 123 rfl)) (mvT hZ (oW hw 122 rfl)) (by decide) (backOf (W := 0) (rm15 l Z a0 hw [] il (0 : Int32) ix h0 n0 Z0 E_il_0 F_size_il_0 F_indices_il_0 ge_il) hZ (oW hw 124 rfl) (oW hw 44 rfl) (by decide) (by decide)) q4a q4c (g := (mkF m 57 #[oR r0, oI 0, oU] [(.ref il)])) rfl (by rw [hml]; rfl) (Steps.refl _) (argsL := []) (rest := []) (lenOf own_pd158 rfl) rfl (by show 2 * 0 + _ ≤ _; exact Nat.le_of_eq rfl) (hb hby d14_57) (fun _ _ => ⟨rfl, e3, (by decide : 0 + 0 ≤ _), (by decide : 0 + 0 ≤ _)⟩)
 obtain ⟨_, _, ⟨T4, L4, k4, n4⟩, -, X4, ⟨Lc4, hQ4, l4, y4, z4⟩, st4⟩ := cq
 dsimp only [Pt.U, Pt.locs, Pt.cells, Pt.slots] at X4 l4 y4 z4 st4 hQ4
 replace y4 : 0 = k4 := y4.symm
 replace z4 : 0 = n4 := z4.symm
 subst y4 z4
 obtain ⟨rfl, N4q, Kq4, E_il_4, F_size_il_4, F_indices_il_4⟩ := hQ4
 have N4 : Fr n0 L4 := by rw [l4]; exact Fr.app N2 N4q
 have E_r0_4 := E_r0_0.keep Kq4
 have u4_r0 := (ninS (ne_exa E_r0_0 E_il_0 (by decide)) nin0)
 have F_words_r0_4 := F_words_r0_0.keep Kq4 u4_r0
 have F_held_r0_4 := F_held_r0_0.keep Kq4 u4_r0
 have F_blocks_r0_4 := F_blocks_r0_0.keep Kq4 u4_r0
 have F_sorted_r0_4 := F_sorted_r0_0.keep Kq4 u4_r0
 have A_ix_4 := A_ix_0.keep Kq4 (ninS (Ne.symm (own_ne_arf E_il_0 (oW hw 43 rfl) A_ix_0)) nin0)
 have K4 := Keep.trans K0 Kq4 (allS (Or.inl (List.mem_of_getElem? (i := 1) rfl)) all0)
 have Z4 : n0 ≤ T4.heap.size := Nat.le_trans Z0 Kq4.1
 refine own_go (fun tg k => st4.trans k) ?_
 show oF (T4.setTop (mkF m 60 #[oR r0, oI 0, oU] []))
 refine own_go (fun _ k => XS.aloadN X4.here hx rfl (hb hby d14_60) rfl rfl (XS.iconst X4.here hx rfl (hb hby d14_61) k)) ?_
 obtain ⟨T5, h5, X5, e5, W5, st5⟩ := putFN X4 hx hZ hown (oW hw 54 rfl) Via.refl rfl F_sorted_r0_4 E_r0_4 (Or.inl (oW hw 55 rfl)) (oW hw 32 rfl) (ty := .boolean) (v' := (.int 1)) (by decide) rfl (by decide) (g := (mkF m 62 #[oR r0, oI 0, oU] [(.int 1), (.ref r0)])) rfl rfl (hb hby d14_62)
 have E_r0_5 := E_r0_4.wr W5
 have F_words_r0_5 := F_words_r0_4.other W5 (Or.inr (own_sn162 hw))
 have F_held_r0_5 := F_held_r0_4.other W5 (Or.inr (own_sn163 hw))
 have F_blocks_r0_5 := F_blocks_r0_4.other W5 (Or.inr (own_sn164 hw))
 have E_il_5 := E_il_4.wr W5
 have u5_il := (ne_exa E_il_4 E_r0_4 (by decide))
 have F_indices_il_5 := F_indices_il_4.other W5 (Or.inl u5_il)
 have F_size_il_5 := F_size_il_4.other W5 (Or.inl u5_il)
 have A_ix_5 := A_ix_4.other W5 (Ne.symm (own_ne_arf E_r0_4 (oW hw 32 rfl) A_ix_4))
 have K5 := K4.wr W5 (Or.inl (List.mem_of_getElem? (i := 0) rfl))
 have N5 := Fr.snoc X5 N4 ge_r0
 have Z5 : n0 ≤ h5.size := Nat.le_trans Z4 (Keep.of_wr W5).1
 have F_sorted_r0_5 := F_sorted_r0_4.same W5
 refine own_go (fun tg k => st5 tg k) ?_
 refine own_retV X5 hx hlk Bd.returns (hb hby d14_65) (Nat.le_of_ble_eq_true rfl) (Nat.le_of_ble_eq_true rfl) ?_
 rw [e5]
 refine ⟨rfl, N5, K5, E_r0_5, ?_, ?_, ?_, ?_, E_il_5, ?_, ?_⟩
 · (exact F_words_r0_5)
 · (exact F_held_r0_5)
 · (exact F_blocks_r0_5)
 · (exact F_sorted_r0_5)
 · (exact F_indices_il_5)
 · (exact F_size_il_5)
theorem own_pd277 : parseMethodDescriptor "([JIIJ)V" = some ⟨[(.array .long), .int, .int, .long], none⟩ := by decide +kernel
theorem d14_13 : oQ oD16 13 (.aload_n 0) 1 := by decide +kernel
theorem d14_14 : oQ oD16 14 (.getfield 14) 3 := by decide +kernel
theorem d14_17 : oQ oD16 17 (.iload_n 1) 1 := by decide +kernel
theorem d14_18 : oQ oD16 18 (.invokevirtual 40) 3 := by decide +kernel
theorem d14_21 : oQ oD16 21 (.istore_n 2) 1 := by decide +kernel
theorem d14_22 : oQ oD16 22 (.aload_n 0) 1 := by decide +kernel
theorem d14_23 : oQ oD16 23 (.getfield 24) 3 := by decide +kernel
theorem d14_26 : oQ oD16 26 (.iload_n 2) 1 := by decide +kernel
theorem d14_27 : oQ oD16 27 (.bipush 16) 2 := by decide +kernel
theorem d14_29 : oQ oD16 29 .imul 1 := by decide +kernel
theorem d14_30 : oQ oD16 30 (.iload_n 2) 1 := by decide +kernel
theorem d14_31 : oQ oD16 31 (.iconst 1) 1 := by decide +kernel
theorem d14_32 : oQ oD16 32 .iadd 1 := by decide +kernel
theorem d14_33 : oQ oD16 33 (.bipush 16) 2 := by decide +kernel
theorem d14_35 : oQ oD16 35 .imul 1 := by decide +kernel
theorem d14_36 : oQ oD16 36 (.lconst 0) 1 := by decide +kernel
theorem d14_37 : oQ oD16 37 (.invokestatic 63) 3 := by decide +kernel
theorem d14_40 : oQ oD16 40 (.aload_n 0) 1 := by decide +kernel
theorem d14_41 : oQ oD16 41 (.getfield 28) 3 := by decide +kernel
theorem d14_44 : oQ oD16 44 (.iload_n 2) 1 := by decide +kernel
theorem d14_45 : oQ oD16 45 (.iconst 0) 1 := by decide +kernel
theorem d14_46 : oQ oD16 46 .bastore 1 := by decide +kernel
theorem d14_47 : oQ oD16 47 (.iinc 1 1) 3 := by decide +kernel
theorem d14_50 : oQ oD16 50 (.goto (-48)) 3 := by decide +kernel
def rm14u_room : Room := { frames := 2, cells := 0, slots := 0, locals := 31 }
def Qrm14u (Z : State) (r0 : Addr) (wd : Addr) (hd : Addr) (il : Addr) (ix : Addr) (nb : Int32) (n : Int32) (k : Int32) (M : List Int32) (fi : Nat → Int32) (fw : Nat → Int64) (fh : Nat → Int32) (h0 : Heap) (n0 : Nat) (v : Option Value) (h : Heap) (L : List Loc) : Prop := ∃ wx : Nat → Int64, ∃ hx : Nat → Int32, v = none ∧ Fr n0 L ∧ Keep h0 h [r0, wd, hd, il] ∧ own_Arf Z h wd .long (nb * (16 : Int32)) (fun i => .long (wx i)) ∧ own_Arf Z h hd .boolean nb (fun i => .int (hx i))
set_option maxRecDepth 65536 in
set_option maxHeartbeats 40000000 in
theorem rm14u (l : Launch) (Z : State) (a0 : Array Value) (hw : oH Z a0) (ws : List Jvm.Cond) (r0 : Addr) (wd : Addr) (hd : Addr) (il : Addr) (ix : Addr) (nb : Int32) (n : Int32) (k : Int32) (M : List Int32) (fi : Nat → Int32) (fw : Nat → Int64) (fh : Nat → Int32) (h0 : Heap) (n0 : Nat) (Z0 : n0 ≤ h0.size) (E_r0_0 : Exa Z h0 r0 oC1) (F_words_r0_0 : Fld Z h0 r0 oC1 "words" "[J" (.ref wd)) (F_held_r0_0 : Fld Z h0 r0 oC1 "held" "[Z" (.ref hd)) (F_blocks_r0_0 : Fld Z h0 r0 oC1 "blocks" oC5 (.ref il)) (F_sorted_r0_0 : Fld Z h0 r0 oC1 "sorted" "Z" (.int 1)) (E_il_0 : Exa Z h0 il oC3) (F_indices_il_0 : Fld Z h0 il oC3 "indices" "[I" (.ref ix)) (F_size_il_0 : Fld Z h0 il oC3 "size" "I" (.int k)) (A_ix_0 : own_Arf Z h0 ix .int (16 : Int32) (fun i => .int (fi i))) (A_wd_0 : own_Arf Z h0 wd .long (nb * (16 : Int32)) (fun i => .long (fw i))) (A_hd_0 : own_Arf Z h0 hd .boolean nb (fun i => .int (fh i))) (ge_r0 : n0 ≤ r0) (ge_wd : n0 ≤ wd) (ge_hd : n0 ≤ hd) (ge_il : n0 ≤ il) (ge_ix : n0 ≤ ix) (hB : own_BS M k fi) (hn : own_nn n nb) (hm : ∀ r ∈ M, own_in r n) :
    MetFree l oM16 (head1 (Jvm.Cond.code oM16 prog_49_method_9_code 3 none :: ws) rm14u_room) (fun a U => a = #[(.ref r0)] ∧ Z.Warmed39 U.vm ∧ U.heap = h0) (fun _ _ _ _ _ => True) (fun _ U o U' => ∃ v L, o = .returned v ∧ Qrm14u Z r0 wd hd il ix nb n k M fi fw fh h0 n0 v U'.heap L ∧ FrameEnd U o U' L rm14u_room.cells rm14u_room.slots) := by
 refine MetFree.of_bodySF (plainFor_of_name pn_14) hisR ?_
 intro p e s m args below meth c s₁ Bd hml0 hP hK
 obtain ⟨rfl, hZ, hh⟩ := hP
 have hx := Bd.exec
 have hby := Bd.bytes
 have hml : c.maxLocals = 3 := hml0
 have hown : s.vm.findClass oC1 = some m.cls := findClass_of_methodNamed Bd.named
 have hnm := (name_of_methodNamed Bd.named Bd.method).1
 have hlk : meth.locks = false := BodyLoose.notSynchronized Bd
 have X0 : Stand p l e rm14u_room s m #[(.ref r0)] below meth c s₁ [] 0 0 := Stand.of_body Bd
 have e0 : s₁.heap = h0 := by rw [← hh, Bd.state]; rfl
 have N0 := Fr.nil n0
 show own_Fin p.tables e below s (Qrm14u Z r0 wd hd il ix nb n k M fi fw fh h0 n0) rm14u_room.cells rm14u_room.slots (s₁.setTop (entryFrame m #[(.ref r0)] 3))
 rw [ef_14]
 show oF (s₁.setTop (mkF m 0 #[oR r0, oU, oU] []))
 have K0 := Keep.refl h0 [r0, wd, hd, il]
 refine own_go (fun _ k => XS.iconst X0.here hx rfl (hb hby d14_0) (XS.istoreN X0.here hx rfl (hb hby d14_1) rfl (l' := #[oR r0, oI 0, oU]) rfl k)) ?_
 show oF (s₁.setTop (mkF m 2 #[oR r0, oI 0, oU] []))
 have loopC : ∀ (kC : Nat) (i : Int32) (wL : Nat → Int64) (hL : Nat → Int32) (j2C : Slot) (TCL : State) (LCL : List Loc) (hCL : Heap), kC = (8 - i.toInt).toNat → own_CI M k fi i → Stand p l e rm14u_room s m #[(.ref r0)] below meth c TCL LCL 0 0 → Fr n0 LCL → TCL.heap = hCL → One j2C → n0 ≤ hCL.size → Keep h0 hCL [r0, wd, hd, il] → Exa Z hCL r0 oC1 → Fld Z hCL r0 oC1 "words" "[J" (.ref wd) → Fld Z hCL r0 oC1 "held" "[Z" (.ref hd) → Fld Z hCL r0 oC1 "blocks" oC5 (.ref il) → Fld Z hCL r0 oC1 "sorted" "Z" (.int 1) → Exa Z hCL il oC3 → Fld Z hCL il oC3 "indices" "[I" (.ref ix) → Fld Z hCL il oC3 "size" "I" (.int k) → own_Arf Z hCL ix .int (16 : Int32) (fun i => .int (fi i)) → own_Arf Z hCL wd .long (nb * (16 : Int32)) (fun i => .long (wL i)) → own_Arf Z hCL hd .boolean nb (fun i => .int (hL i)) → own_Fin p.tables e below s (Qrm14u Z r0 wd hd il ix nb n k M fi fw fh h0 n0) rm14u_room.cells rm14u_room.slots (TCL.setTop (mkF m 2 #[oR r0, oI i, j2C] [])) := by
  intro kC
  induction kC using Nat.strongRecOn with
  | _ kC ihC =>
   intro i wL hL j2C TCL LCL hCL hkC hI XCL NCL eCL hj2C ZCL KCL E_r0_CL F_words_r0_CL F_held_r0_CL F_blocks_r0_CL F_sorted_r0_CL E_il_CL F_indices_il_CL F_size_il_CL A_ix_CL A_wd_CL A_hd_CL
   show oF (TCL.setTop (mkF m 2 #[oR r0, oI i, j2C] []))
   refine own_go (fun _ k => XS.iloadN XCL.here hx rfl (hb hby d14_2) rfl (XS.aloadN XCL.here hx rfl (hb hby d14_3) rfl rfl k)) ?_
   obtain ⟨T1, X1, e1, st1⟩ := getF XCL hx hZ hown (host := "") (Or.inl (oW hw 52 rfl)) Via.refl eCL F_blocks_r0_CL (g := (mkF m 4 #[oR r0, oI i, j2C] [(.ref r0), (.int i)])) rfl rfl (hb hby d14_4)
   refine own_go (fun tg k => st1 tg k) ?_
   have cq := isOf hZ e1 E_il_CL
   obtain ⟨cq2, kq2, q2a, q2b, q2c⟩ := cq
   have cq := X1.virtualBack hx (y := oM6) (z := oM6) hown (mvT hZ (oW hw 108 rfl)) (mvT hZ (oW hw 109 rfl)) (notFace_of_selects (args := #[]) (mvT hZ (oW hw 111 rfl))) (mvT hZ (oW hw 111 rfl)) (mvT hZ (oW hw 110 rfl)) (by decide) (backOf (W := 1) (rm13 l Z a0 hw [] il k hCL n0 ZCL F_size_il_CL) hZ (oW hw 112 rfl) (oW hw 44 rfl) (by decide) (by decide)) q2a q2c (g := (mkF m 7 #[oR r0, oI i, j2C] [(.ref il), (.int i)])) rfl (by rw [hml]; rfl) (Steps.refl _) (argsL := []) (rest := [(.int i)]) (lenOf own_pd194 rfl) rfl (by show 2 * 0 + _ ≤ _; exact Nat.le_of_eq rfl) (hb hby d14_7) (fun _ _ => ⟨rfl, e1, (by decide : 0 + 0 ≤ _), (by decide : 0 + 0 ≤ _)⟩)
   obtain ⟨_, _, ⟨T2, L2, k2, n2⟩, -, X2, ⟨Lc2, hQ2, l2, y2, z2⟩, st2⟩ := cq
   dsimp only [Pt.U, Pt.locs, Pt.cells, Pt.slots] at X2 l2 y2 z2 st2 hQ2
   replace y2 : 0 = k2 := y2.symm
   replace z2 : 0 = n2 := z2.symm
   subst y2 z2
   obtain ⟨rfl, N2q, e2⟩ := hQ2
   have N2 : Fr n0 L2 := by rw [l2]; exact Fr.app NCL N2q
   refine own_go (fun tg k => st2.trans k) ?_
   show oF (T2.setTop (mkF m 10 #[oR r0, oI i, j2C] [(.int k), (.int i)]))
   by_cases hc3 : i < k
   ·refine own_go (fun _ k => XS.icmpNo X2.here hx rfl (hb hby d14_10) rfl (tlt hc3).2.1 (XS.aloadN X2.here hx rfl (hb hby d14_13) rfl rfl k)) ?_
    obtain ⟨T4, X4, e4, st4⟩ := getF X2 hx hZ hown (host := "") (Or.inl (oW hw 52 rfl)) Via.refl e2 F_blocks_r0_CL (g := (mkF m 14 #[oR r0, oI i, j2C] [(.ref r0)])) rfl rfl (hb hby d14_14)
    refine own_go (fun tg k => st4 tg k) ?_
    refine own_go (fun _ k => XS.iloadN X4.here hx rfl (hb hby d14_17) rfl k) ?_
    have cq := isOf hZ e4 E_il_CL
    obtain ⟨cq5, kq5, q5a, q5b, q5c⟩ := cq
    have cq := X4.virtualBack hx (y := oM7) (z := oM7) hown (mvT hZ (oW hw 160 rfl)) (mvT hZ (oW hw 161 rfl)) (notFace_of_selects (args := #[]) (mvT hZ (oW hw 163 rfl))) (mvT hZ (oW hw 163 rfl)) (mvT hZ (oW hw 162 rfl)) (by decide) (backOf (W := 0) (rm21 l Z a0 hw [] il i ix fi hCL n0 ZCL F_indices_il_CL A_ix_CL (own_CIs hn hm hI hc3).2.2.1) hZ (oW hw 164 rfl) (oW hw 44 rfl) (by decide) (by decide)) q5a q5c (g := (mkF m 18 #[oR r0, oI i, j2C] [(.int i), (.ref il)])) rfl (by rw [hml]; rfl) (Steps.refl _) (argsL := [(.int i)]) (rest := []) (lenOf own_pd90 rfl) rfl (by show 2 * 0 + _ ≤ _; exact Nat.le_of_eq rfl) (hb hby d14_18) (fun _ _ => ⟨rfl, e4, (by decide : 0 + 0 ≤ _), (by decide : 0 + 0 ≤ _)⟩)
    obtain ⟨_, _, ⟨T5, L5, k5, n5⟩, -, X5, ⟨Lc5, hQ5, l5, y5, z5⟩, st5⟩ := cq
    dsimp only [Pt.U, Pt.locs, Pt.cells, Pt.slots] at X5 l5 y5 z5 st5 hQ5
    replace y5 : 0 = k5 := y5.symm
    replace z5 : 0 = n5 := z5.symm
    subst y5 z5
    obtain ⟨rfl, N5q, e5⟩ := hQ5
    have N5 : Fr n0 L5 := by rw [l5]; exact Fr.app N2 N5q
    refine own_go (fun tg k => st5.trans k) ?_
    show oF (T5.setTop (mkF m 21 #[oR r0, oI i, j2C] [(.int (fi i.toNatClampNeg))]))
    refine own_go (fun _ k => XS.istoreNS X5.here hx rfl (hb hby d14_21) rfl rfl hj2C (XS.aloadN X5.here hx rfl (hb hby d14_22) rfl rfl k)) ?_
    obtain ⟨T6, X6, e6, st6⟩ := getF X5 hx hZ hown (host := "") (Or.inl (oW hw 57 rfl)) Via.refl e5 F_words_r0_CL (g := (mkF m 23 #[oR r0, oI i, .val (.int (fi i.toNatClampNeg))] [(.ref r0)])) rfl rfl (hb hby d14_23)
    refine own_go (fun tg k => st6 tg k) ?_
    refine own_go (fun _ k => XS.iloadN X6.here hx rfl (hb hby d14_26) rfl (XS.bipush X6.here hx rfl (hb hby d14_27) (XS.imul X6.here hx rfl (hb hby d14_29) rfl (XS.iloadN X6.here hx rfl (hb hby d14_30) rfl (XS.iconst X6.here hx rfl (hb hby d14_31) (XS.iadd X6.here hx rfl (hb hby d14_32) rfl (XS.bipush X6.here hx rfl (hb hby d14_33) (XS.imul X6.here hx rfl (hb hby d14_35) rfl (XS.lconst X6.here hx rfl (hb hby d14_36) k))))))))) ?_
    have cq := Jvm.LawKit.callS X6 hx (y := oM15) hown (mvT hZ (oW hw 199 rfl)) (mvT hZ (oW hw 200 rfl)) (mvT hZ (oW hw 194 rfl)) (mvT hZ (oW hw 201 rfl)) (by decide) (backOf (W := 0) (rm30 l Z a0 hw [] wd ((fi i.toNatClampNeg) * (16 : Int32)) (((fi i.toNatClampNeg) + (1 : Int32)) * (16 : Int32)) (0 : Int64) (nb * (16 : Int32)) wL hCL n0 ZCL A_wd_CL ge_wd (own_CIs hn hm hI hc3).2.2.2.1) hZ (oW hw 201 rfl) (oW hw 194 rfl) (by decide) (by decide)) (g := (mkF m 37 #[oR r0, oI i, .val (.int (fi i.toNatClampNeg))] [(.long (0 : Int64)), (.int (((fi i.toNatClampNeg) + (1 : Int32)) * (16 : Int32))), (.int ((fi i.toNatClampNeg) * (16 : Int32))), (.ref wd)])) rfl (by rw [hml]; rfl) (argsL := [(.ref wd), (.int ((fi i.toNatClampNeg) * (16 : Int32))), (.int (((fi i.toNatClampNeg) + (1 : Int32)) * (16 : Int32))), (.long (0 : Int64))]) (rest := []) (lenOf own_pd277 rfl) rfl (by show 2 * 0 + _ ≤ _; exact Nat.le_of_eq rfl) (hb hby d14_37) (fun _ _ => ⟨rfl, e6, (by decide : 0 + 0 ≤ _), (by decide : 0 + 0 ≤ _)⟩)
    obtain ⟨_, _, ⟨T7, L7, k7, n7⟩, -, X7, ⟨Lc7, hQ7, l7, y7, z7⟩, st7⟩ := cq
    dsimp only [Pt.U, Pt.locs, Pt.cells, Pt.slots] at X7 l7 y7 z7 st7 hQ7
    replace y7 : 0 = k7 := y7.symm
    replace z7 : 0 = n7 := z7.symm
    subst y7 z7
    obtain ⟨rfl, N7q, Kq7, A_wd_7⟩ := hQ7
    have N7 : Fr n0 L7 := by rw [l7]; exact Fr.app N5 N7q
    have E_r0_7 := E_r0_CL.keep Kq7
    have u7_r0 := (ninS (own_ne_arf E_r0_CL (oW hw 32 rfl) A_wd_CL) nin0)
    have F_words_r0_7 := F_words_r0_CL.keep Kq7 u7_r0
    have F_held_r0_7 := F_held_r0_CL.keep Kq7 u7_r0
    have F_blocks_r0_7 := F_blocks_r0_CL.keep Kq7 u7_r0
    have F_sorted_r0_7 := F_sorted_r0_CL.keep Kq7 u7_r0
    have E_il_7 := E_il_CL.keep Kq7
    have u7_il := (ninS (own_ne_arf E_il_CL (oW hw 43 rfl) A_wd_CL) nin0)
    have F_indices_il_7 := F_indices_il_CL.keep Kq7 u7_il
    have F_size_il_7 := F_size_il_CL.keep Kq7 u7_il
    have A_ix_7 := A_ix_CL.keep Kq7 (ninS (own_ne_ty A_ix_CL A_wd_CL (by decide)) nin0)
    have A_hd_7 := A_hd_CL.keep Kq7 (ninS (own_ne_ty A_hd_CL A_wd_CL (by decide)) nin0)
    have K7 := Keep.trans KCL Kq7 (allS (Or.inl (List.mem_of_getElem? (i := 1) rfl)) all0)
    have Z7 : n0 ≤ T7.heap.size := Nat.le_trans ZCL Kq7.1
    refine own_go (fun tg k => st7 tg k) ?_
    show oF (T7.setTop (mkF m 40 #[oR r0, oI i, .val (.int (fi i.toNatClampNeg))] []))
    refine own_go (fun _ k => XS.aloadN X7.here hx rfl (hb hby d14_40) rfl rfl k) ?_
    obtain ⟨T8, X8, e8, st8⟩ := getF X7 hx hZ hown (host := "") (Or.inl (oW hw 60 rfl)) Via.refl rfl F_held_r0_7 (g := (mkF m 41 #[oR r0, oI i, .val (.int (fi i.toNatClampNeg))] [(.ref r0)])) rfl rfl (hb hby d14_41)
    refine own_go (fun tg k => st8 tg k) ?_
    refine own_go (fun _ k => XS.iloadN X8.here hx rfl (hb hby d14_44) rfl (XS.iconst X8.here hx rfl (hb hby d14_45) k)) ?_
    obtain ⟨T9, h9, X9, e9, W9, A_hd_9, st9⟩ := own_stZ X8 hx hZ e8 A_hd_7 (j := (fi i.toNatClampNeg)) (own_CIs hn hm hI hc3).2.2.2.2 (g := (mkF m 46 #[oR r0, oI i, .val (.int (fi i.toNatClampNeg))] [(.int 0), (.int (fi i.toNatClampNeg)), (.ref hd)])) rfl rfl (hb hby d14_46)
    have E_r0_9 := E_r0_7.wr W9
    have u9_r0 := (own_ne_arf E_r0_7 (oW hw 32 rfl) A_hd_7)
    have F_words_r0_9 := F_words_r0_7.other W9 (Or.inl u9_r0)
    have F_held_r0_9 := F_held_r0_7.other W9 (Or.inl u9_r0)
    have F_blocks_r0_9 := F_blocks_r0_7.other W9 (Or.inl u9_r0)
    have F_sorted_r0_9 := F_sorted_r0_7.other W9 (Or.inl u9_r0)
    have E_il_9 := E_il_7.wr W9
    have u9_il := (own_ne_arf E_il_7 (oW hw 43 rfl) A_hd_7)
    have F_indices_il_9 := F_indices_il_7.other W9 (Or.inl u9_il)
    have F_size_il_9 := F_size_il_7.other W9 (Or.inl u9_il)
    have A_ix_9 := A_ix_7.other W9 (own_ne_ty A_ix_7 A_hd_7 (by decide))
    have A_wd_9 := A_wd_7.other W9 (own_ne_ty A_wd_7 A_hd_7 (by decide))
    have K9 := K7.wr W9 (Or.inl (List.mem_of_getElem? (i := 2) rfl))
    have N9 := Fr.snoc X9 N7 ge_hd
    have Z9 : n0 ≤ h9.size := Nat.le_trans Z7 (Keep.of_wr W9).1
    refine own_go (fun tg k => st9 tg k) ?_
    refine own_go (fun _ k => XS.iinc X9.here hx rfl (hb hby d14_47) rfl (l' := #[oR r0, .val (.int (i + (1 : Int32))), .val (.int (fi i.toNatClampNeg))]) rfl (XS.goto X9.here hx rfl (pc0 := 50) (pc' := 2) rfl (hb hby d14_50) (by decide) (by decide) k)) ?_
    show oF (T9.setTop (mkF m 2 #[oR r0, .val (.int (i + (1 : Int32))), .val (.int (fi i.toNatClampNeg))] []))
    exact ihC _ (Nat.lt_of_lt_of_eq (own_CIs hn hm hI hc3).2.1 hkC.symm) ((i + (1 : Int32))) (own_fil wL ((fi i.toNatClampNeg) * (16 : Int32)) (((fi i.toNatClampNeg) + (1 : Int32)) * (16 : Int32)) (0 : Int64)) (own_set hL (fi i.toNatClampNeg) (0 : Int32)) (.val (.int (fi i.toNatClampNeg))) T9 _ h9 rfl (own_CIs hn hm hI hc3).1 (own_mono X9 (by decide) (by decide)) N9 e9 (One.val rfl) Z9 K9 E_r0_9 F_words_r0_9 F_held_r0_9 F_blocks_r0_9 F_sorted_r0_9 E_il_9 F_indices_il_9 F_size_il_9 A_ix_9 A_wd_9 A_hd_9
   ·refine own_go (fun _ k => XS.icmpYes X2.here hx rfl (pc0 := 10) (pc' := 53) rfl (hb hby d14_10) rfl (flt hc3).2.1 (by decide) (by decide) k) ?_
    show oF (T2.setTop (mkF m 53 #[oR r0, oI i, j2C] []))
    refine own_go (fun _ k => XS.aloadN X2.here hx rfl (hb hby d14_53) rfl rfl k) ?_
    obtain ⟨T10, X10, e10, st10⟩ := getF X2 hx hZ hown (host := "") (Or.inl (oW hw 52 rfl)) Via.refl e2 F_blocks_r0_CL (g := (mkF m 54 #[oR r0, oI i, j2C] [(.ref r0)])) rfl rfl (hb hby d14_54)
    refine own_go (fun tg k => st10 tg k) ?_
    have cq := isOf hZ e10 E_il_CL
    obtain ⟨cq11, kq11, q11a, q11b, q11c⟩ := cq
    have cq := X10.virtualBack hx (y := oM8) (z := oM8) hown (mvT hZ (oW hw 120 rfl)) (mvT hZ (oW hw 121 rfl)) (notFace_of_selects (args := #[]) (mvT hZ (oW hw 123 rfl))) (mvT hZ (oW hw 123 rfl)) (mvT hZ (oW hw 122 rfl)) (by decide) (backOf (W := 0) (rm15 l Z a0 hw [] il k ix hCL n0 ZCL E_il_CL F_size_il_CL F_indices_il_CL ge_il) hZ (oW hw 124 rfl) (oW hw 44 rfl) (by decide) (by decide)) q11a q11c (g := (mkF m 57 #[oR r0, oI i, j2C] [(.ref il)])) rfl (by rw [hml]; rfl) (Steps.refl _) (argsL := []) (rest := []) (lenOf own_pd158 rfl) rfl (by show 2 * 0 + _ ≤ _; exact Nat.le_of_eq rfl) (hb hby d14_57) (fun _ _ => ⟨rfl, e10, (by decide : 0 + 0 ≤ _), (by decide : 0 + 0 ≤ _)⟩)
    obtain ⟨_, _, ⟨T11, L11, k11, n11⟩, -, X11, ⟨Lc11, hQ11, l11, y11, z11⟩, st11⟩ := cq
    dsimp only [Pt.U, Pt.locs, Pt.cells, Pt.slots] at X11 l11 y11 z11 st11 hQ11
    replace y11 : 0 = k11 := y11.symm
    replace z11 : 0 = n11 := z11.symm
    subst y11 z11
    obtain ⟨rfl, N11q, Kq11, E_il_11, F_size_il_11, F_indices_il_11⟩ := hQ11
    have N11 : Fr n0 L11 := by rw [l11]; exact Fr.app N2 N11q
    have E_r0_11 := E_r0_CL.keep Kq11
    have u11_r0 := (ninS (ne_exa E_r0_CL E_il_CL (by decide)) nin0)
    have F_words_r0_11 := F_words_r0_CL.keep Kq11 u11_r0
    have F_held_r0_11 := F_held_r0_CL.keep Kq11 u11_r0
    have F_blocks_r0_11 := F_blocks_r0_CL.keep Kq11 u11_r0
    have F_sorted_r0_11 := F_sorted_r0_CL.keep Kq11 u11_r0
    have A_ix_11 := A_ix_CL.keep Kq11 (ninS (Ne.symm (own_ne_arf E_il_CL (oW hw 43 rfl) A_ix_CL)) nin0)
    have A_wd_11 := A_wd_CL.keep Kq11 (ninS (Ne.symm (own_ne_arf E_il_CL (oW hw 43 rfl) A_wd_CL)) nin0)
    have A_hd_11 := A_hd_CL.keep Kq11 (ninS (Ne.symm (own_ne_arf E_il_CL (oW hw 43 rfl) A_hd_CL)) nin0)
    have K11 := Keep.trans KCL Kq11 (allS (Or.inl (List.mem_of_getElem? (i := 3) rfl)) all0)
    have Z11 : n0 ≤ T11.heap.size := Nat.le_trans ZCL Kq11.1
    refine own_go (fun tg k => st11.trans k) ?_
    show oF (T11.setTop (mkF m 60 #[oR r0, oI i, j2C] []))
    refine own_go (fun _ k => XS.aloadN X11.here hx rfl (hb hby d14_60) rfl rfl (XS.iconst X11.here hx rfl (hb hby d14_61) k)) ?_
    obtain ⟨T12, h12, X12, e12, W12, st12⟩ := putFN X11 hx hZ hown (oW hw 54 rfl) Via.refl rfl F_sorted_r0_11 E_r0_11 (Or.inl (oW hw 55 rfl)) (oW hw 32 rfl) (ty := .boolean) (v' := (.int 1)) (by decide) rfl (by decide) (g := (mkF m 62 #[oR r0, oI i, j2C] [(.int 1), (.ref r0)])) rfl rfl (hb hby d14_62)
    have E_r0_12 := E_r0_11.wr W12
    have F_words_r0_12 := F_words_r0_11.other W12 (Or.inr (own_sn162 hw))
    have F_held_r0_12 := F_held_r0_11.other W12 (Or.inr (own_sn163 hw))
    have F_blocks_r0_12 := F_blocks_r0_11.other W12 (Or.inr (own_sn164 hw))
    have E_il_12 := E_il_11.wr W12
    have u12_il := (ne_exa E_il_11 E_r0_11 (by decide))
    have F_indices_il_12 := F_indices_il_11.other W12 (Or.inl u12_il)
    have F_size_il_12 := F_size_il_11.other W12 (Or.inl u12_il)
    have A_ix_12 := A_ix_11.other W12 (Ne.symm (own_ne_arf E_r0_11 (oW hw 32 rfl) A_ix_11))
    have A_wd_12 := A_wd_11.other W12 (Ne.symm (own_ne_arf E_r0_11 (oW hw 32 rfl) A_wd_11))
    have A_hd_12 := A_hd_11.other W12 (Ne.symm (own_ne_arf E_r0_11 (oW hw 32 rfl) A_hd_11))
    have K12 := K11.wr W12 (Or.inl (List.mem_of_getElem? (i := 0) rfl))
    have N12 := Fr.snoc X12 N11 ge_r0
    have Z12 : n0 ≤ h12.size := Nat.le_trans Z11 (Keep.of_wr W12).1
    have F_sorted_r0_12 := F_sorted_r0_11.same W12
    refine own_go (fun tg k => st12 tg k) ?_
    refine own_retV X12 hx hlk Bd.returns (hb hby d14_65) (Nat.le_of_ble_eq_true rfl) (Nat.le_of_ble_eq_true rfl) ?_
    rw [e12]
    refine ⟨wL, hL, rfl, N12, K12, ?_, ?_⟩
    · first | (exact A_wd_12) | (simp only [if_neg hc3]; exact A_wd_12)
    · first | (exact A_hd_12) | (simp only [if_neg hc3]; exact A_hd_12)
 exact loopC _ ((0 : Int32)) fw fh (.unset) s₁ _ h0 rfl (own_CI0 hB) (own_mono X0 (by decide) (by decide)) N0 e0 One.u Z0 K0 E_r0_0 F_words_r0_0 F_held_r0_0 F_blocks_r0_0 F_sorted_r0_0 E_il_0 F_indices_il_0 F_size_il_0 A_ix_0 A_wd_0 A_hd_0
theorem own_pd302 : parseMethodDescriptor "(I)V" = some ⟨[.int], none⟩ := by decide +kernel
theorem d17_0 : oQ oD17 0 (.aload_n 0) 1 := by decide +kernel
theorem d17_1 : oQ oD17 1 (.getfield 28) 3 := by decide +kernel
theorem d17_4 : oQ oD17 4 (.iload_n 1) 1 := by decide +kernel
theorem d17_5 : oQ oD17 5 .baload 1 := by decide +kernel
theorem d17_6 : oQ oD17 6 (.ifCond .ne 62) 3 := by decide +kernel
theorem d17_9 : oQ oD17 9 (.aload_n 0) 1 := by decide +kernel
theorem d17_10 : oQ oD17 10 (.getfield 28) 3 := by decide +kernel
theorem d17_13 : oQ oD17 13 (.iload_n 1) 1 := by decide +kernel
theorem d17_14 : oQ oD17 14 (.iconst 1) 1 := by decide +kernel
theorem d17_15 : oQ oD17 15 .bastore 1 := by decide +kernel
theorem d17_16 : oQ oD17 16 (.aload_n 0) 1 := by decide +kernel
theorem d17_17 : oQ oD17 17 .dup 1 := by decide +kernel
theorem d17_18 : oQ oD17 18 (.getfield 20) 3 := by decide +kernel
theorem d17_21 : oQ oD17 21 (.aload_n 0) 1 := by decide +kernel
theorem d17_22 : oQ oD17 22 (.getfield 14) 3 := by decide +kernel
theorem d17_25 : oQ oD17 25 (.invokevirtual 36) 3 := by decide +kernel
theorem d17_28 : oQ oD17 28 (.ifCond .eq 23) 3 := by decide +kernel
theorem d17_31 : oQ oD17 31 (.aload_n 0) 1 := by decide +kernel
theorem d17_32 : oQ oD17 32 (.getfield 14) 3 := by decide +kernel
theorem d17_35 : oQ oD17 35 (.aload_n 0) 1 := by decide +kernel
theorem d17_36 : oQ oD17 36 (.getfield 14) 3 := by decide +kernel
theorem d17_39 : oQ oD17 39 (.invokevirtual 36) 3 := by decide +kernel
theorem d17_42 : oQ oD17 42 (.iconst 1) 1 := by decide +kernel
theorem d17_43 : oQ oD17 43 .isub 1 := by decide +kernel
theorem d17_44 : oQ oD17 44 (.invokevirtual 40) 3 := by decide +kernel
theorem d17_47 : oQ oD17 47 (.iload_n 1) 1 := by decide +kernel
theorem d17_48 : oQ oD17 48 (.if_icmp .ge 7) 3 := by decide +kernel
theorem d17_51 : oQ oD17 51 (.iconst 1) 1 := by decide +kernel
theorem d17_52 : oQ oD17 52 (.goto 4) 3 := by decide +kernel
theorem d17_55 : oQ oD17 55 (.iconst 0) 1 := by decide +kernel
theorem d17_56 : oQ oD17 56 .iand 1 := by decide +kernel
theorem d17_57 : oQ oD17 57 (.putfield 20) 3 := by decide +kernel
theorem d17_60 : oQ oD17 60 (.aload_n 0) 1 := by decide +kernel
theorem d17_61 : oQ oD17 61 (.getfield 14) 3 := by decide +kernel
theorem d17_64 : oQ oD17 64 (.iload_n 1) 1 := by decide +kernel
theorem d17_65 : oQ oD17 65 (.invokevirtual 44) 3 := by decide +kernel
theorem d17_68 : oQ oD17 68 .return_ 1 := by decide +kernel
theorem pn_17 : plainName oC1 = true := by first | (simp [plainName, overriddenIn]; done) | decide +kernel
theorem ef_17 (m : MethodId) (r0 : Addr) (p1 : Int32) : entryFrame m #[(.ref r0), (.int p1)] 2 = mkF m 0 #[oR r0, oI p1] [] := by first | (simp [entryFrame, mkF, argsToLocals, Value.category]; done) | rfl
def rm17_room : Room := { frames := 1, cells := 0, slots := 0, locals := 15 }
def Qrm17 (Z : State) (r0 : Addr) (p1 : Int32) (wd : Addr) (hd : Addr) (il : Addr) (ix : Addr) (nb : Int32) (Vv : own_V) (h0 : Heap) (n0 : Nat) (v : Option Value) (h : Heap) (L : List Loc) : Prop := v = none ∧ Fr n0 L ∧ Keep h0 h [r0, hd, il, ix] ∧ Exa Z h r0 oC1 ∧ Fld Z h r0 oC1 "words" "[J" (.ref wd) ∧ Fld Z h r0 oC1 "held" "[Z" (.ref hd) ∧ Fld Z h r0 oC1 "blocks" oC5 (.ref il) ∧ Fld Z h r0 oC1 "sorted" "Z" (.int (own_hold Vv p1).s_) ∧ Exa Z h il oC3 ∧ Fld Z h il oC3 "indices" "[I" (.ref ix) ∧ Fld Z h il oC3 "size" "I" (.int (own_hold Vv p1).k_) ∧ own_Arf Z h ix .int (16 : Int32) (fun i => .int ((own_hold Vv p1).f_ i)) ∧ own_Arf Z h hd .boolean nb (fun i => .int ((own_hold Vv p1).h_ i))
set_option maxRecDepth 65536 in
set_option maxHeartbeats 40000000 in
theorem rm17 (l : Launch) (Z : State) (a0 : Array Value) (hw : oH Z a0) (ws : List Jvm.Cond) (r0 : Addr) (p1 : Int32) (wd : Addr) (hd : Addr) (il : Addr) (ix : Addr) (nb : Int32) (Vv : own_V) (h0 : Heap) (n0 : Nat) (Z0 : n0 ≤ h0.size) (E_r0_0 : Exa Z h0 r0 oC1) (F_words_r0_0 : Fld Z h0 r0 oC1 "words" "[J" (.ref wd)) (F_held_r0_0 : Fld Z h0 r0 oC1 "held" "[Z" (.ref hd)) (F_blocks_r0_0 : Fld Z h0 r0 oC1 "blocks" oC5 (.ref il)) (F_sorted_r0_0 : Fld Z h0 r0 oC1 "sorted" "Z" (.int Vv.s_)) (E_il_0 : Exa Z h0 il oC3) (F_indices_il_0 : Fld Z h0 il oC3 "indices" "[I" (.ref ix)) (F_size_il_0 : Fld Z h0 il oC3 "size" "I" (.int Vv.k_)) (A_ix_0 : own_Arf Z h0 ix .int (16 : Int32) (fun i => .int (Vv.f_ i))) (A_hd_0 : own_Arf Z h0 hd .boolean nb (fun i => .int (Vv.h_ i))) (ge_r0 : n0 ≤ r0) (ge_wd : n0 ≤ wd) (ge_hd : n0 ≤ hd) (ge_il : n0 ≤ il) (ge_ix : n0 ≤ ix) (hp : ¬ p1 < 0 ∧ p1 < nb) (hk : own_VB Vv 3) :
    MetFree l oM17 (head1 (Jvm.Cond.code oM17 prog_49_method_4_code 2 none :: ws) rm17_room) (fun a U => a = #[(.ref r0), (.int p1)] ∧ Z.Warmed39 U.vm ∧ U.heap = h0) (fun _ _ _ _ _ => True) (fun _ U o U' => ∃ v L, o = .returned v ∧ Qrm17 Z r0 p1 wd hd il ix nb Vv h0 n0 v U'.heap L ∧ FrameEnd U o U' L rm17_room.cells rm17_room.slots) := by
 refine MetFree.of_bodySF (plainFor_of_name pn_17) hisR ?_
 intro p e s m args below meth c s₁ Bd hml0 hP hK
 obtain ⟨rfl, hZ, hh⟩ := hP
 have hx := Bd.exec
 have hby := Bd.bytes
 have hml : c.maxLocals = 2 := hml0
 have hown : s.vm.findClass oC1 = some m.cls := findClass_of_methodNamed Bd.named
 have hnm := (name_of_methodNamed Bd.named Bd.method).1
 have hlk : meth.locks = false := BodyLoose.notSynchronized Bd
 have X0 : Stand p l e rm17_room s m #[(.ref r0), (.int p1)] below meth c s₁ [] 0 0 := Stand.of_body Bd
 have e0 : s₁.heap = h0 := by rw [← hh, Bd.state]; rfl
 have N0 := Fr.nil n0
 show own_Fin p.tables e below s (Qrm17 Z r0 p1 wd hd il ix nb Vv h0 n0) rm17_room.cells rm17_room.slots (s₁.setTop (entryFrame m #[(.ref r0), (.int p1)] 2))
 rw [ef_17]
 show oF (s₁.setTop (mkF m 0 #[oR r0, oI p1] []))
 have K0 := Keep.refl h0 [r0, hd, il, ix]
 refine own_go (fun _ k => XS.aloadN X0.here hx rfl (hb hby d17_0) rfl rfl k) ?_
 obtain ⟨T1, X1, e1, st1⟩ := getF X0 hx hZ hown (host := "") (Or.inl (oW hw 60 rfl)) Via.refl e0 F_held_r0_0 (g := (mkF m 1 #[oR r0, oI p1] [(.ref r0)])) rfl rfl (hb hby d17_1)
 refine own_go (fun tg k => st1 tg k) ?_
 refine own_go (fun _ k => XS.iloadN X1.here hx rfl (hb hby d17_4) rfl k) ?_
 refine own_go (fun tg k => own_zaload X1 hx hZ e1 A_hd_0 (j := p1) hp (x := (Vv.h_ p1.toNatClampNeg)) rfl (g := (mkF m 5 #[oR r0, oI p1] [(.int p1), (.ref hd)])) rfl rfl (hb hby d17_5) tg k) ?_
 by_cases hc2 : (Vv.h_ p1.toNatClampNeg) = (0 : Int32)
 ·refine own_go (fun _ k => XS.ifNo X1.here hx rfl (hb hby d17_6) rfl ((if0 _ _).trans (teq hc2).2) (XS.aloadN X1.here hx rfl (hb hby d17_9) rfl rfl k)) ?_
  obtain ⟨T3, X3, e3, st3⟩ := getF X1 hx hZ hown (host := "") (Or.inl (oW hw 60 rfl)) Via.refl e1 F_held_r0_0 (g := (mkF m 10 #[oR r0, oI p1] [(.ref r0)])) rfl rfl (hb hby d17_10)
  refine own_go (fun tg k => st3 tg k) ?_
  refine own_go (fun _ k => XS.iloadN X3.here hx rfl (hb hby d17_13) rfl (XS.iconst X3.here hx rfl (hb hby d17_14) k)) ?_
  obtain ⟨T4, h4, X4, e4, W4, A_hd_4, st4⟩ := own_stZ X3 hx hZ e3 A_hd_0 (j := p1) hp (g := (mkF m 15 #[oR r0, oI p1] [(.int 1), (.int p1), (.ref hd)])) rfl rfl (hb hby d17_15)
  have E_r0_4 := E_r0_0.wr W4
  have u4_r0 := (own_ne_arf E_r0_0 (oW hw 32 rfl) A_hd_0)
  have F_words_r0_4 := F_words_r0_0.other W4 (Or.inl u4_r0)
  have F_held_r0_4 := F_held_r0_0.other W4 (Or.inl u4_r0)
  have F_blocks_r0_4 := F_blocks_r0_0.other W4 (Or.inl u4_r0)
  have F_sorted_r0_4 := F_sorted_r0_0.other W4 (Or.inl u4_r0)
  have E_il_4 := E_il_0.wr W4
  have u4_il := (own_ne_arf E_il_0 (oW hw 43 rfl) A_hd_0)
  have F_indices_il_4 := F_indices_il_0.other W4 (Or.inl u4_il)
  have F_size_il_4 := F_size_il_0.other W4 (Or.inl u4_il)
  have A_ix_4 := A_ix_0.other W4 (own_ne_ty A_ix_0 A_hd_0 (by decide))
  have K4 := K0.wr W4 (Or.inl (List.mem_of_getElem? (i := 1) rfl))
  have N4 := Fr.snoc X4 N0 ge_hd
  have Z4 : n0 ≤ h4.size := Nat.le_trans Z0 (Keep.of_wr W4).1
  refine own_go (fun tg k => st4 tg k) ?_
  refine own_go (fun _ k => XS.aloadN X4.here hx rfl (hb hby d17_16) rfl rfl (XS.dup X4.here hx rfl (hb hby d17_17) rfl rfl k)) ?_
  obtain ⟨T5, X5, e5, st5⟩ := getF X4 hx hZ hown (host := "") (Or.inl (oW hw 54 rfl)) Via.refl e4 F_sorted_r0_4 (g := (mkF m 18 #[oR r0, oI p1] [(.ref r0), (.ref r0)])) rfl rfl (hb hby d17_18)
  refine own_go (fun tg k => st5 tg k) ?_
  refine own_go (fun _ k => XS.aloadN X5.here hx rfl (hb hby d17_21) rfl rfl k) ?_
  obtain ⟨T6, X6, e6, st6⟩ := getF X5 hx hZ hown (host := "") (Or.inl (oW hw 52 rfl)) Via.refl e5 F_blocks_r0_4 (g := (mkF m 22 #[oR r0, oI p1] [(.ref r0), (.int Vv.s_), (.ref r0)])) rfl rfl (hb hby d17_22)
  refine own_go (fun tg k => st6 tg k) ?_
  have cq := isOf hZ e6 E_il_4
  obtain ⟨cq7, kq7, q7a, q7b, q7c⟩ := cq
  have cq := X6.virtualBack hx (y := oM6) (z := oM6) hown (mvT hZ (oW hw 108 rfl)) (mvT hZ (oW hw 109 rfl)) (notFace_of_selects (args := #[]) (mvT hZ (oW hw 111 rfl))) (mvT hZ (oW hw 111 rfl)) (mvT hZ (oW hw 110 rfl)) (by decide) (backOf (W := 2) (rm13 l Z a0 hw [] il Vv.k_ h4 n0 Z4 F_size_il_4) hZ (oW hw 112 rfl) (oW hw 44 rfl) (by decide) (by decide)) q7a q7c (g := (mkF m 25 #[oR r0, oI p1] [(.ref il), (.int Vv.s_), (.ref r0)])) rfl (by rw [hml]; rfl) (Steps.refl _) (argsL := []) (rest := [(.int Vv.s_), (.ref r0)]) (lenOf own_pd194 rfl) rfl (by show 2 * 0 + _ ≤ _; exact Nat.le_of_eq rfl) (hb hby d17_25) (fun _ _ => ⟨rfl, e6, (by decide : 0 + 0 ≤ _), (by decide : 0 + 0 ≤ _)⟩)
  obtain ⟨_, _, ⟨T7, L7, k7, n7⟩, -, X7, ⟨Lc7, hQ7, l7, y7, z7⟩, st7⟩ := cq
  dsimp only [Pt.U, Pt.locs, Pt.cells, Pt.slots] at X7 l7 y7 z7 st7 hQ7
  replace y7 : 0 = k7 := y7.symm
  replace z7 : 0 = n7 := z7.symm
  subst y7 z7
  obtain ⟨rfl, N7q, e7⟩ := hQ7
  have N7 : Fr n0 L7 := by rw [l7]; exact Fr.app N4 N7q
  refine own_go (fun tg k => st7.trans k) ?_
  show oF (T7.setTop (mkF m 28 #[oR r0, oI p1] [(.int Vv.k_), (.int Vv.s_), (.ref r0)]))
  have hk9 : ∀ (T' : State) (L' : List Loc), Stand p l e rm17_room s m #[(.ref r0), (.int p1)] below meth c T' L' 0 0 → Fr n0 L' → T'.heap = h4 → own_Fin p.tables e below s (Qrm17 Z r0 p1 wd hd il ix nb Vv h0 n0) rm17_room.cells rm17_room.slots (T'.setTop (mkF m 56 #[oR r0, oI p1] [(.int (if Vv.k_ = (0 : Int32) then (1 : Int32) else (if (Vv.f_ (Vv.k_ - (1 : Int32)).toNatClampNeg) < p1 then (1 : Int32) else (0 : Int32)))), (.int Vv.s_), (.ref r0)])) := by
   intro T15 L15 X15 N15 e15
   generalize hz16 : (if Vv.k_ = (0 : Int32) then (1 : Int32) else (if (Vv.f_ (Vv.k_ - (1 : Int32)).toNatClampNeg) < p1 then (1 : Int32) else (0 : Int32))) = z16
   show oF (T15.setTop (mkF m 56 #[oR r0, oI p1] [(.int z16), (.int Vv.s_), (.ref r0)]))
   refine own_go (fun _ k => XS.iand X15.here hx rfl (hb hby d17_56) rfl k) ?_
   obtain ⟨T17, h17, X17, e17, W17, st17⟩ := putFN X15 hx hZ hown (oW hw 54 rfl) Via.refl e15 F_sorted_r0_4 E_r0_4 (Or.inl (oW hw 55 rfl)) (oW hw 32 rfl) (ty := .boolean) (v' := (.int ((Vv.s_ &&& z16) &&& 1))) (by decide) rfl (fits_nar_bool _) (g := (mkF m 57 #[oR r0, oI p1] [(.int (Vv.s_ &&& z16)), (.ref r0)])) rfl rfl (hb hby d17_57)
   have E_r0_17 := E_r0_4.wr W17
   have F_words_r0_17 := F_words_r0_4.other W17 (Or.inr (own_sn162 hw))
   have F_held_r0_17 := F_held_r0_4.other W17 (Or.inr (own_sn163 hw))
   have F_blocks_r0_17 := F_blocks_r0_4.other W17 (Or.inr (own_sn164 hw))
   have E_il_17 := E_il_4.wr W17
   have u17_il := (ne_exa E_il_4 E_r0_4 (by decide))
   have F_indices_il_17 := F_indices_il_4.other W17 (Or.inl u17_il)
   have F_size_il_17 := F_size_il_4.other W17 (Or.inl u17_il)
   have A_ix_17 := A_ix_4.other W17 (Ne.symm (own_ne_arf E_r0_4 (oW hw 32 rfl) A_ix_4))
   have A_hd_17 := A_hd_4.other W17 (Ne.symm (own_ne_arf E_r0_4 (oW hw 32 rfl) A_hd_4))
   have K17 := K4.wr W17 (Or.inl (List.mem_of_getElem? (i := 0) rfl))
   have N17 := Fr.snoc X17 N15 ge_r0
   have Z17 : n0 ≤ h17.size := Nat.le_trans Z4 (Keep.of_wr W17).1
   have F_sorted_r0_17 := F_sorted_r0_4.same W17
   refine own_go (fun tg k => st17 tg k) ?_
   refine own_go (fun _ k => XS.aloadN X17.here hx rfl (hb hby d17_60) rfl rfl k) ?_
   obtain ⟨T18, X18, e18, st18⟩ := getF X17 hx hZ hown (host := "") (Or.inl (oW hw 52 rfl)) Via.refl e17 F_blocks_r0_17 (g := (mkF m 61 #[oR r0, oI p1] [(.ref r0)])) rfl rfl (hb hby d17_61)
   refine own_go (fun tg k => st18 tg k) ?_
   refine own_go (fun _ k => XS.iloadN X18.here hx rfl (hb hby d17_64) rfl k) ?_
   have cq := isOf hZ e18 E_il_17
   obtain ⟨cq19, kq19, q19a, q19b, q19c⟩ := cq
   have cq := X18.virtualBack hx (y := oM9) (z := oM9) hown (mvT hZ (oW hw 145 rfl)) (mvT hZ (oW hw 146 rfl)) (notFace_of_selects (args := #[]) (mvT hZ (oW hw 148 rfl))) (mvT hZ (oW hw 148 rfl)) (mvT hZ (oW hw 147 rfl)) (by decide) (backOf (W := 0) (rm18 l Z a0 hw [] il p1 Vv.k_ ix Vv.f_ h17 n0 Z17 E_il_17 F_size_il_17 F_indices_il_17 A_ix_17 ge_il ge_ix (own_VBk hk).1) hZ (oW hw 149 rfl) (oW hw 44 rfl) (by decide) (by decide)) q19a q19c (g := (mkF m 65 #[oR r0, oI p1] [(.int p1), (.ref il)])) rfl (by rw [hml]; rfl) (Steps.refl _) (argsL := [(.int p1)]) (rest := []) (lenOf own_pd302 rfl) rfl (by show 2 * 0 + _ ≤ _; exact Nat.le_of_eq rfl) (hb hby d17_65) (fun _ _ => ⟨rfl, e18, (by decide : 0 + 0 ≤ _), (by decide : 0 + 0 ≤ _)⟩)
   obtain ⟨_, _, ⟨T19, L19, k19, n19⟩, -, X19, ⟨Lc19, hQ19, l19, y19, z19⟩, st19⟩ := cq
   dsimp only [Pt.U, Pt.locs, Pt.cells, Pt.slots] at X19 l19 y19 z19 st19 hQ19
   replace y19 : 0 = k19 := y19.symm
   replace z19 : 0 = n19 := z19.symm
   subst y19 z19
   obtain ⟨rfl, N19q, Kq19, E_il_19, F_size_il_19, F_indices_il_19, A_ix_19⟩ := hQ19
   have N19 : Fr n0 L19 := by rw [l19]; exact Fr.app N17 N19q
   have E_r0_19 := E_r0_17.keep Kq19
   have u19_r0 := (ninS (ne_exa E_r0_17 E_il_17 (by decide)) (ninS (own_ne_arf E_r0_17 (oW hw 32 rfl) A_ix_17) nin0))
   have F_words_r0_19 := F_words_r0_17.keep Kq19 u19_r0
   have F_held_r0_19 := F_held_r0_17.keep Kq19 u19_r0
   have F_blocks_r0_19 := F_blocks_r0_17.keep Kq19 u19_r0
   have F_sorted_r0_19 := F_sorted_r0_17.keep Kq19 u19_r0
   have A_hd_19 := A_hd_17.keep Kq19 (ninS (Ne.symm (own_ne_arf E_il_17 (oW hw 43 rfl) A_hd_17)) (ninS (own_ne_ty A_hd_17 A_ix_17 (by decide)) nin0))
   have K19 := Keep.trans K17 Kq19 (allS (Or.inl (List.mem_of_getElem? (i := 2) rfl)) (allS (Or.inl (List.mem_of_getElem? (i := 3) rfl)) all0))
   have Z19 : n0 ≤ T19.heap.size := Nat.le_trans Z17 Kq19.1
   refine own_go (fun tg k => st19.trans k) ?_
   show oF (T19.setTop (mkF m 68 #[oR r0, oI p1] []))
   refine own_retV X19 hx hlk Bd.returns (hb hby d17_68) (Nat.le_of_ble_eq_true rfl) (Nat.le_of_ble_eq_true rfl) ?_
   refine ⟨rfl, N19, K19, E_r0_19, ?_, ?_, ?_, ?_, E_il_19, ?_, ?_, ?_, ?_⟩
   · first | (exact F_words_r0_19) | (simp only [if_pos hc2]; exact F_words_r0_19)
   · first | (exact F_held_r0_19) | (simp only [if_pos hc2]; exact F_held_r0_19)
   · first | (exact F_blocks_r0_19) | (simp only [if_pos hc2]; exact F_blocks_r0_19)
   · ( rw [own_hsj hc2, hz16]; exact F_sorted_r0_19)
   · first | (exact F_indices_il_19) | (simp only [if_pos hc2]; exact F_indices_il_19)
   · ( rw [(own_h1 hc2).1]; exact F_size_il_19)
   · ( rw [(own_h1 hc2).2.1]; exact A_ix_19)
   · ( rw [(own_h1 hc2).2.2]; exact A_hd_19)
  by_cases hc8 : Vv.k_ = (0 : Int32)
  ·refine own_go (fun _ k => XS.ifYes X7.here hx rfl (pc0 := 28) (pc' := 51) rfl (hb hby d17_28) rfl ((if0 _ _).trans (teq hc8).1) (by decide) (by decide) (XS.iconst X7.here hx rfl (hb hby d17_51) (XS.goto X7.here hx rfl (pc0 := 52) (pc' := 56) rfl (hb hby d17_52) (by decide) (by decide) k))) ?_
   show oF (T7.setTop (mkF m 56 #[oR r0, oI p1] [(.int 1), (.int Vv.s_), (.ref r0)]))
   have kj := hk9 T7 _ (own_mono X7 (by decide) (by decide)) N7 e7
   simpa only [if_pos hc8] using kj
  ·refine own_go (fun _ k => XS.ifNo X7.here hx rfl (hb hby d17_28) rfl ((if0 _ _).trans (feq hc8).1) (XS.aloadN X7.here hx rfl (hb hby d17_31) rfl rfl k)) ?_
   obtain ⟨T10, X10, e10, st10⟩ := getF X7 hx hZ hown (host := "") (Or.inl (oW hw 52 rfl)) Via.refl e7 F_blocks_r0_4 (g := (mkF m 32 #[oR r0, oI p1] [(.ref r0), (.int Vv.s_), (.ref r0)])) rfl rfl (hb hby d17_32)
   refine own_go (fun tg k => st10 tg k) ?_
   refine own_go (fun _ k => XS.aloadN X10.here hx rfl (hb hby d17_35) rfl rfl k) ?_
   obtain ⟨T11, X11, e11, st11⟩ := getF X10 hx hZ hown (host := "") (Or.inl (oW hw 52 rfl)) Via.refl e10 F_blocks_r0_4 (g := (mkF m 36 #[oR r0, oI p1] [(.ref r0), (.ref il), (.int Vv.s_), (.ref r0)])) rfl rfl (hb hby d17_36)
   refine own_go (fun tg k => st11 tg k) ?_
   have cq := isOf hZ e11 E_il_4
   obtain ⟨cq12, kq12, q12a, q12b, q12c⟩ := cq
   have cq := X11.virtualBack hx (y := oM6) (z := oM6) hown (mvT hZ (oW hw 108 rfl)) (mvT hZ (oW hw 109 rfl)) (notFace_of_selects (args := #[]) (mvT hZ (oW hw 111 rfl))) (mvT hZ (oW hw 111 rfl)) (mvT hZ (oW hw 110 rfl)) (by decide) (backOf (W := 3) (rm13 l Z a0 hw [] il Vv.k_ h4 n0 Z4 F_size_il_4) hZ (oW hw 112 rfl) (oW hw 44 rfl) (by decide) (by decide)) q12a q12c (g := (mkF m 39 #[oR r0, oI p1] [(.ref il), (.ref il), (.int Vv.s_), (.ref r0)])) rfl (by rw [hml]; rfl) (Steps.refl _) (argsL := []) (rest := [(.ref il), (.int Vv.s_), (.ref r0)]) (lenOf own_pd194 rfl) rfl (by show 2 * 0 + _ ≤ _; exact Nat.le_of_eq rfl) (hb hby d17_39) (fun _ _ => ⟨rfl, e11, (by decide : 0 + 0 ≤ _), (by decide : 0 + 0 ≤ _)⟩)
   obtain ⟨_, _, ⟨T12, L12, k12, n12⟩, -, X12, ⟨Lc12, hQ12, l12, y12, z12⟩, st12⟩ := cq
   dsimp only [Pt.U, Pt.locs, Pt.cells, Pt.slots] at X12 l12 y12 z12 st12 hQ12
   replace y12 : 0 = k12 := y12.symm
   replace z12 : 0 = n12 := z12.symm
   subst y12 z12
   obtain ⟨rfl, N12q, e12⟩ := hQ12
   have N12 : Fr n0 L12 := by rw [l12]; exact Fr.app N7 N12q
   refine own_go (fun tg k => st12.trans k) ?_
   show oF (T12.setTop (mkF m 42 #[oR r0, oI p1] [(.int Vv.k_), (.ref il), (.int Vv.s_), (.ref r0)]))
   refine own_go (fun _ k => XS.iconst X12.here hx rfl (hb hby d17_42) (XS.isub X12.here hx rfl (hb hby d17_43) rfl k)) ?_
   have cq := isOf hZ e12 E_il_4
   obtain ⟨cq13, kq13, q13a, q13b, q13c⟩ := cq
   have cq := X12.virtualBack hx (y := oM7) (z := oM7) hown (mvT hZ (oW hw 160 rfl)) (mvT hZ (oW hw 161 rfl)) (notFace_of_selects (args := #[]) (mvT hZ (oW hw 163 rfl))) (mvT hZ (oW hw 163 rfl)) (mvT hZ (oW hw 162 rfl)) (by decide) (backOf (W := 2) (rm21 l Z a0 hw [] il (Vv.k_ - (1 : Int32)) ix Vv.f_ h4 n0 Z4 F_indices_il_4 A_ix_4 ((own_VBk hk).2 hc8)) hZ (oW hw 164 rfl) (oW hw 44 rfl) (by decide) (by decide)) q13a q13c (g := (mkF m 44 #[oR r0, oI p1] [(.int (Vv.k_ - (1 : Int32))), (.ref il), (.int Vv.s_), (.ref r0)])) rfl (by rw [hml]; rfl) (Steps.refl _) (argsL := [(.int (Vv.k_ - (1 : Int32)))]) (rest := [(.int Vv.s_), (.ref r0)]) (lenOf own_pd90 rfl) rfl (by show 2 * 0 + _ ≤ _; exact Nat.le_of_eq rfl) (hb hby d17_44) (fun _ _ => ⟨rfl, e12, (by decide : 0 + 0 ≤ _), (by decide : 0 + 0 ≤ _)⟩)
   obtain ⟨_, _, ⟨T13, L13, k13, n13⟩, -, X13, ⟨Lc13, hQ13, l13, y13, z13⟩, st13⟩ := cq
   dsimp only [Pt.U, Pt.locs, Pt.cells, Pt.slots] at X13 l13 y13 z13 st13 hQ13
   replace y13 : 0 = k13 := y13.symm
   replace z13 : 0 = n13 := z13.symm
   subst y13 z13
   obtain ⟨rfl, N13q, e13⟩ := hQ13
   have N13 : Fr n0 L13 := by rw [l13]; exact Fr.app N12 N13q
   refine own_go (fun tg k => st13.trans k) ?_
   show oF (T13.setTop (mkF m 47 #[oR r0, oI p1] [(.int (Vv.f_ (Vv.k_ - (1 : Int32)).toNatClampNeg)), (.int Vv.s_), (.ref r0)]))
   refine own_go (fun _ k => XS.iloadN X13.here hx rfl (hb hby d17_47) rfl k) ?_
   by_cases hc14 : (Vv.f_ (Vv.k_ - (1 : Int32)).toNatClampNeg) < p1
   ·refine own_go (fun _ k => XS.icmpNo X13.here hx rfl (hb hby d17_48) rfl (tlt hc14).2.1 (XS.iconst X13.here hx rfl (hb hby d17_51) (XS.goto X13.here hx rfl (pc0 := 52) (pc' := 56) rfl (hb hby d17_52) (by decide) (by decide) k))) ?_
    show oF (T13.setTop (mkF m 56 #[oR r0, oI p1] [(.int 1), (.int Vv.s_), (.ref r0)]))
    have kj := hk9 T13 _ (own_mono X13 (by decide) (by decide)) N13 e13
    simpa only [if_neg hc8, if_pos hc14] using kj
   ·refine own_go (fun _ k => XS.icmpYes X13.here hx rfl (pc0 := 48) (pc' := 55) rfl (hb hby d17_48) rfl (flt hc14).2.1 (by decide) (by decide) (XS.iconst X13.here hx rfl (hb hby d17_55) k)) ?_
    show oF (T13.setTop (mkF m 56 #[oR r0, oI p1] [(.int 0), (.int Vv.s_), (.ref r0)]))
    have kj := hk9 T13 _ (own_mono X13 (by decide) (by decide)) N13 e13
    simpa only [if_neg hc8, if_neg hc14] using kj
 ·refine own_go (fun _ k => XS.ifYes X1.here hx rfl (pc0 := 6) (pc' := 68) rfl (hb hby d17_6) rfl ((if0 _ _).trans (feq hc2).2) (by decide) (by decide) k) ?_
  show oF (T1.setTop (mkF m 68 #[oR r0, oI p1] []))
  refine own_retV X1 hx hlk Bd.returns (hb hby d17_68) (Nat.le_of_ble_eq_true rfl) (Nat.le_of_ble_eq_true rfl) ?_
  rw [e1]
  refine ⟨rfl, N0, K0, E_r0_0, ?_, ?_, ?_, ?_, E_il_0, ?_, ?_, ?_, ?_⟩
  · first | (exact F_words_r0_0) | (simp only [if_neg hc2]; exact F_words_r0_0)
  · first | (exact F_held_r0_0) | (simp only [if_neg hc2]; exact F_held_r0_0)
  · first | (exact F_blocks_r0_0) | (simp only [if_neg hc2]; exact F_blocks_r0_0)
  · ( rw [own_ho hc2]; exact F_sorted_r0_0)
  · first | (exact F_indices_il_0) | (simp only [if_neg hc2]; exact F_indices_il_0)
  · ( rw [own_ho hc2]; exact F_size_il_0)
  · ( rw [own_ho hc2]; exact A_ix_0)
  · ( rw [own_ho hc2]; exact A_hd_0)
theorem d16_0 : oQ oD18 0 (.aload_n 0) 1 := by decide +kernel
theorem d16_1 : oQ oD18 1 (.getfield 24) 3 := by decide +kernel
theorem d16_4 : oQ oD18 4 (.iload_n 1) 1 := by decide +kernel
theorem d16_5 : oQ oD18 5 (.bipush 64) 2 := by decide +kernel
theorem d16_7 : oQ oD18 7 .idiv 1 := by decide +kernel
theorem d16_8 : oQ oD18 8 .dup2 1 := by decide +kernel
theorem d16_9 : oQ oD18 9 .laload 1 := by decide +kernel
theorem d16_10 : oQ oD18 10 (.lconst 1) 1 := by decide +kernel
theorem d16_11 : oQ oD18 11 (.iload_n 1) 1 := by decide +kernel
theorem d16_12 : oQ oD18 12 .lshl 1 := by decide +kernel
theorem d16_13 : oQ oD18 13 .lor 1 := by decide +kernel
theorem d16_14 : oQ oD18 14 .lastore 1 := by decide +kernel
theorem d16_15 : oQ oD18 15 (.aload_n 0) 1 := by decide +kernel
theorem d16_16 : oQ oD18 16 (.iload_n 1) 1 := by decide +kernel
theorem d16_17 : oQ oD18 17 (.sipush 1024) 3 := by decide +kernel
theorem d16_20 : oQ oD18 20 .idiv 1 := by decide +kernel
theorem d16_21 : oQ oD18 21 (.invokevirtual 32) 3 := by decide +kernel
theorem d16_24 : oQ oD18 24 .return_ 1 := by decide +kernel
theorem pn_16 : plainName oC1 = true := by first | (simp [plainName, overriddenIn]; done) | decide +kernel
theorem ef_16 (m : MethodId) (r0 : Addr) (p1 : Int32) : entryFrame m #[(.ref r0), (.int p1)] 2 = mkF m 0 #[oR r0, oI p1] [] := by first | (simp [entryFrame, mkF, argsToLocals, Value.category]; done) | rfl
def rm16_room : Room := { frames := 2, cells := 0, slots := 0, locals := 28 }
def Qrm16 (Z : State) (r0 : Addr) (p1 : Int32) (wd : Addr) (hd : Addr) (il : Addr) (ix : Addr) (nb : Int32) (Vv : own_V) (h0 : Heap) (n0 : Nat) (v : Option Value) (h : Heap) (L : List Loc) : Prop := v = none ∧ Fr n0 L ∧ Keep h0 h [r0, wd, hd, il, ix] ∧ Exa Z h r0 oC1 ∧ Fld Z h r0 oC1 "words" "[J" (.ref wd) ∧ Fld Z h r0 oC1 "held" "[Z" (.ref hd) ∧ Fld Z h r0 oC1 "blocks" oC5 (.ref il) ∧ Fld Z h r0 oC1 "sorted" "Z" (.int (own_vad Vv p1).s_) ∧ Exa Z h il oC3 ∧ Fld Z h il oC3 "indices" "[I" (.ref ix) ∧ Fld Z h il oC3 "size" "I" (.int (own_vad Vv p1).k_) ∧ own_Arf Z h ix .int (16 : Int32) (fun i => .int ((own_vad Vv p1).f_ i)) ∧ own_Arf Z h hd .boolean nb (fun i => .int ((own_vad Vv p1).h_ i)) ∧ own_Arf Z h wd .long (nb * (16 : Int32)) (fun i => .long ((own_vad Vv p1).w_ i))
set_option maxRecDepth 65536 in
set_option maxHeartbeats 40000000 in
theorem rm16 (l : Launch) (Z : State) (a0 : Array Value) (hw : oH Z a0) (ws : List Jvm.Cond) (r0 : Addr) (p1 : Int32) (wd : Addr) (hd : Addr) (il : Addr) (ix : Addr) (nb : Int32) (Vv : own_V) (h0 : Heap) (n0 : Nat) (Z0 : n0 ≤ h0.size) (E_r0_0 : Exa Z h0 r0 oC1) (F_words_r0_0 : Fld Z h0 r0 oC1 "words" "[J" (.ref wd)) (F_held_r0_0 : Fld Z h0 r0 oC1 "held" "[Z" (.ref hd)) (F_blocks_r0_0 : Fld Z h0 r0 oC1 "blocks" oC5 (.ref il)) (F_sorted_r0_0 : Fld Z h0 r0 oC1 "sorted" "Z" (.int Vv.s_)) (E_il_0 : Exa Z h0 il oC3) (F_indices_il_0 : Fld Z h0 il oC3 "indices" "[I" (.ref ix)) (F_size_il_0 : Fld Z h0 il oC3 "size" "I" (.int Vv.k_)) (A_ix_0 : own_Arf Z h0 ix .int (16 : Int32) (fun i => .int (Vv.f_ i))) (A_hd_0 : own_Arf Z h0 hd .boolean nb (fun i => .int (Vv.h_ i))) (A_wd_0 : own_Arf Z h0 wd .long (nb * (16 : Int32)) (fun i => .long (Vv.w_ i))) (ge_r0 : n0 ≤ r0) (ge_wd : n0 ≤ wd) (ge_hd : n0 ≤ hd) (ge_il : n0 ≤ il) (ge_ix : n0 ≤ ix) (hp : ((¬ (p1 / (64 : Int32)) < 0 ∧ (p1 / (64 : Int32)) < (nb * (16 : Int32))) ∧ (¬ (p1 / (1024 : Int32)) < 0 ∧ (p1 / (1024 : Int32)) < nb))) (hk : own_VB Vv 3) :
    MetFree l oM18 (head1 (Jvm.Cond.code oM18 prog_49_method_2_code 2 none :: ws) rm16_room) (fun a U => a = #[(.ref r0), (.int p1)] ∧ Z.Warmed39 U.vm ∧ U.heap = h0) (fun _ _ _ _ _ => True) (fun _ U o U' => ∃ v L, o = .returned v ∧ Qrm16 Z r0 p1 wd hd il ix nb Vv h0 n0 v U'.heap L ∧ FrameEnd U o U' L rm16_room.cells rm16_room.slots) := by
 refine MetFree.of_bodySF (plainFor_of_name pn_16) hisR ?_
 intro p e s m args below meth c s₁ Bd hml0 hP hK
 obtain ⟨rfl, hZ, hh⟩ := hP
 have hx := Bd.exec
 have hby := Bd.bytes
 have hml : c.maxLocals = 2 := hml0
 have hown : s.vm.findClass oC1 = some m.cls := findClass_of_methodNamed Bd.named
 have hnm := (name_of_methodNamed Bd.named Bd.method).1
 have hlk : meth.locks = false := BodyLoose.notSynchronized Bd
 have X0 : Stand p l e rm16_room s m #[(.ref r0), (.int p1)] below meth c s₁ [] 0 0 := Stand.of_body Bd
 have e0 : s₁.heap = h0 := by rw [← hh, Bd.state]; rfl
 have N0 := Fr.nil n0
 show own_Fin p.tables e below s (Qrm16 Z r0 p1 wd hd il ix nb Vv h0 n0) rm16_room.cells rm16_room.slots (s₁.setTop (entryFrame m #[(.ref r0), (.int p1)] 2))
 rw [ef_16]
 show oF (s₁.setTop (mkF m 0 #[oR r0, oI p1] []))
 have K0 := Keep.refl h0 [r0, wd, hd, il, ix]
 refine own_go (fun _ k => XS.aloadN X0.here hx rfl (hb hby d16_0) rfl rfl k) ?_
 obtain ⟨T1, X1, e1, st1⟩ := getF X0 hx hZ hown (host := "") (Or.inl (oW hw 57 rfl)) Via.refl e0 F_words_r0_0 (g := (mkF m 1 #[oR r0, oI p1] [(.ref r0)])) rfl rfl (hb hby d16_1)
 refine own_go (fun tg k => st1 tg k) ?_
 refine own_go (fun _ k => XS.iloadN X1.here hx rfl (hb hby d16_4) rfl (XS.bipush X1.here hx rfl (hb hby d16_5) (XS.idiv X1.here hx rfl (hb hby d16_7) rfl (by decide) k))) ?_
 refine own_go (fun _ k => Jvm.Free.XT.dup2 X1.here hx rfl (hb hby d16_8) rfl rfl rfl k) ?_
 refine own_go (fun tg k => own_laload X1 hx hZ e1 A_wd_0 (j := (p1 / (64 : Int32))) hp.1 (x := (Vv.w_ (p1 / (64 : Int32)).toNatClampNeg)) rfl (g := (mkF m 9 #[oR r0, oI p1] [(.int (p1 / (64 : Int32))), (.ref wd), (.int (p1 / (64 : Int32))), (.ref wd)])) rfl rfl (hb hby d16_9) tg k) ?_
 refine own_go (fun _ k => XS.lconst X1.here hx rfl (hb hby d16_10) (XS.iloadN X1.here hx rfl (hb hby d16_11) rfl (XS.lshl X1.here hx rfl (hb hby d16_12) rfl k))) ?_
 show oF (T1.setTop (mkF m 13 #[oR r0, oI p1] [(.long (own_lshl (1 : Int64) p1)), (.long (Vv.w_ (p1 / (64 : Int32)).toNatClampNeg)), (.int (p1 / (64 : Int32))), (.ref wd)]))
 refine own_go (fun _ k => XS.lor X1.here hx rfl (hb hby d16_13) rfl k) ?_
 have cq := own_stJ X1 hx hZ e1 A_wd_0 (j := (p1 / (64 : Int32))) hp.1 (g := (mkF m 14 #[oR r0, oI p1] [(.long ((Vv.w_ (p1 / (64 : Int32)).toNatClampNeg) ||| (own_lshl (1 : Int64) p1))), (.int (p1 / (64 : Int32))), (.ref wd)])) rfl rfl (hb hby d16_14)
 obtain ⟨T2, h2, X2, e2, W2, A_wd_2, st2⟩ := cq
 have E_r0_2 := E_r0_0.wr W2
 have u2_r0 := (own_ne_arf E_r0_0 (oW hw 32 rfl) A_wd_0)
 have F_words_r0_2 := F_words_r0_0.other W2 (Or.inl u2_r0)
 have F_held_r0_2 := F_held_r0_0.other W2 (Or.inl u2_r0)
 have F_blocks_r0_2 := F_blocks_r0_0.other W2 (Or.inl u2_r0)
 have F_sorted_r0_2 := F_sorted_r0_0.other W2 (Or.inl u2_r0)
 have E_il_2 := E_il_0.wr W2
 have u2_il := (own_ne_arf E_il_0 (oW hw 43 rfl) A_wd_0)
 have F_indices_il_2 := F_indices_il_0.other W2 (Or.inl u2_il)
 have F_size_il_2 := F_size_il_0.other W2 (Or.inl u2_il)
 have A_ix_2 := A_ix_0.other W2 (own_ne_ty A_ix_0 A_wd_0 (by decide))
 have A_hd_2 := A_hd_0.other W2 (own_ne_ty A_hd_0 A_wd_0 (by decide))
 have K2 := K0.wr W2 (Or.inl (List.mem_of_getElem? (i := 1) rfl))
 have N2 := Fr.snoc X2 N0 ge_wd
 have Z2 : n0 ≤ h2.size := Nat.le_trans Z0 (Keep.of_wr W2).1
 refine own_go (fun tg k => st2 tg k) ?_
 refine own_go (fun _ k => XS.aloadN X2.here hx rfl (hb hby d16_15) rfl rfl (XS.iloadN X2.here hx rfl (hb hby d16_16) rfl (XS.sipush X2.here hx rfl (hb hby d16_17) (XS.idiv X2.here hx rfl (hb hby d16_20) rfl (by decide) k)))) ?_
 obtain ⟨cq3, q3, q3'⟩ := E_r0_2.cell
 have cq := X2.privateBack hx (y := oM17) hown (mvT hZ (oW hw 141 rfl)) (mvT hZ (oW hw 142 rfl)) (own_selpriv (z := oM11) rfl (mvT (args := #[]) hZ (oW hw 106 rfl)) (Cond.privateMethod_at (mvP hZ (oW hw 143 rfl) (args := #[]))) (mvT hZ (oW hw 142 rfl)) (by decide)) (Cond.privateMethod_at (mvP hZ (oW hw 143 rfl) (args := #[]))) (mvT hZ (oW hw 144 rfl)) (by decide) (backOf (W := 0) (rm17 l Z a0 hw [] r0 (p1 / (1024 : Int32)) wd hd il ix nb Vv h2 n0 Z2 E_r0_2 F_words_r0_2 F_held_r0_2 F_blocks_r0_2 F_sorted_r0_2 E_il_2 F_indices_il_2 F_size_il_2 A_ix_2 A_hd_2 ge_r0 ge_wd ge_hd ge_il ge_ix hp.2 hk) hZ (oW hw 144 rfl) (oW hw 33 rfl) (by decide) (by decide)) (g := (mkF m 21 #[oR r0, oI p1] [(.int (p1 / (1024 : Int32))), (.ref r0)])) rfl (by rw [hml]; rfl) (Steps.refl _) (a := r0) (by rw [e2]; exact q3) q3' (argsL := [(.int (p1 / (1024 : Int32)))]) (rest := []) (lenOf own_pd302 rfl) rfl (by show 2 * 0 + _ ≤ _; exact Nat.le_of_eq rfl) (hb hby d16_21) (fun _ _ => ⟨rfl, e2, (by decide : 0 + 0 ≤ _), (by decide : 0 + 0 ≤ _)⟩)
 obtain ⟨_, _, ⟨T3, L3, k3, n3⟩, -, X3, ⟨Lc3, hQ3, l3, y3, z3⟩, st3⟩ := cq
 dsimp only [Pt.U, Pt.locs, Pt.cells, Pt.slots] at X3 l3 y3 z3 st3 hQ3
 replace y3 : 0 = k3 := y3.symm
 replace z3 : 0 = n3 := z3.symm
 subst y3 z3
 obtain ⟨rfl, N3q, Kq3, E_r0_3, F_words_r0_3, F_held_r0_3, F_blocks_r0_3, F_sorted_r0_3, E_il_3, F_indices_il_3, F_size_il_3, A_ix_3, A_hd_3⟩ := hQ3
 have N3 : Fr n0 L3 := by rw [l3]; exact Fr.app N2 N3q
 have A_wd_3 := A_wd_2.keep Kq3 (ninS (Ne.symm (own_ne_arf E_r0_2 (oW hw 32 rfl) A_wd_2)) (ninS (own_ne_ty A_wd_2 A_hd_2 (by decide)) (ninS (Ne.symm (own_ne_arf E_il_2 (oW hw 43 rfl) A_wd_2)) (ninS (own_ne_ty A_wd_2 A_ix_2 (by decide)) nin0))))
 have K3 := Keep.trans K2 Kq3 (allS (Or.inl (List.mem_of_getElem? (i := 0) rfl)) (allS (Or.inl (List.mem_of_getElem? (i := 2) rfl)) (allS (Or.inl (List.mem_of_getElem? (i := 3) rfl)) (allS (Or.inl (List.mem_of_getElem? (i := 4) rfl)) all0))))
 have Z3 : n0 ≤ T3.heap.size := Nat.le_trans Z2 Kq3.1
 refine own_go (fun tg k => st3.trans k) ?_
 show oF (T3.setTop (mkF m 24 #[oR r0, oI p1] []))
 refine own_retV X3 hx hlk Bd.returns (hb hby d16_24) (Nat.le_of_ble_eq_true rfl) (Nat.le_of_ble_eq_true rfl) ?_
 refine ⟨rfl, N3, K3, E_r0_3, ?_, ?_, ?_, ?_, E_il_3, ?_, ?_, ?_, ?_, ?_⟩
 · (exact F_words_r0_3)
 · (exact F_held_r0_3)
 · (exact F_blocks_r0_3)
 · ( rw [(own_va Vv p1).2.2.2.2]; exact F_sorted_r0_3)
 · (exact F_indices_il_3)
 · ( rw [(own_va Vv p1).2.2.1]; exact F_size_il_3)
 · ( rw [(own_va Vv p1).2.2.2.1]; exact A_ix_3)
 · ( rw [(own_va Vv p1).2.1]; exact A_hd_3)
 · ( rw [(own_va Vv p1).1]; exact A_wd_3)
theorem d35_0 : oQ oD19 0 (.iload_n 1) 1 := by decide +kernel
theorem d35_1 : oQ oD19 1 (.istore 4) 2 := by decide +kernel
theorem d35_3 : oQ oD19 3 (.iinc 4 1) 3 := by decide +kernel
theorem d35_6 : oQ oD19 6 (.iload 4) 2 := by decide +kernel
theorem d35_8 : oQ oD19 8 (.iload_n 2) 1 := by decide +kernel
theorem d35_9 : oQ oD19 9 (.if_icmp .ge 58) 3 := by decide +kernel
theorem d35_12 : oQ oD19 12 (.aload_n 0) 1 := by decide +kernel
theorem d35_13 : oQ oD19 13 (.iload 4) 2 := by decide +kernel
theorem d35_15 : oQ oD19 15 .dup 1 := by decide +kernel
theorem d35_16 : oQ oD19 16 (.istore_n 3) 1 := by decide +kernel
theorem d35_17 : oQ oD19 17 .iaload 1 := by decide +kernel
theorem d35_18 : oQ oD19 18 (.istore 5) 2 := by decide +kernel
theorem d35_20 : oQ oD19 20 (.iload 5) 2 := by decide +kernel
theorem d35_22 : oQ oD19 22 (.aload_n 0) 1 := by decide +kernel
theorem d35_23 : oQ oD19 23 (.iload_n 3) 1 := by decide +kernel
theorem d35_24 : oQ oD19 24 (.iconst 1) 1 := by decide +kernel
theorem d35_25 : oQ oD19 25 .isub 1 := by decide +kernel
theorem d35_26 : oQ oD19 26 .iaload 1 := by decide +kernel
theorem d35_27 : oQ oD19 27 (.if_icmp .ge 37) 3 := by decide +kernel
theorem d35_30 : oQ oD19 30 (.iinc 3 (-1)) 3 := by decide +kernel
theorem d35_33 : oQ oD19 33 (.iload_n 3) 1 := by decide +kernel
theorem d35_34 : oQ oD19 34 (.iload_n 1) 1 := by decide +kernel
theorem d35_35 : oQ oD19 35 (.if_icmp .lt 22) 3 := by decide +kernel
theorem d35_38 : oQ oD19 38 (.iload 5) 2 := by decide +kernel
theorem d35_40 : oQ oD19 40 (.aload_n 0) 1 := by decide +kernel
theorem d35_41 : oQ oD19 41 (.iload_n 3) 1 := by decide +kernel
theorem d35_42 : oQ oD19 42 .iaload 1 := by decide +kernel
theorem d35_43 : oQ oD19 43 (.if_icmp .ge 14) 3 := by decide +kernel
theorem d35_46 : oQ oD19 46 (.aload_n 0) 1 := by decide +kernel
theorem d35_47 : oQ oD19 47 (.iload_n 3) 1 := by decide +kernel
theorem d35_48 : oQ oD19 48 (.iconst 1) 1 := by decide +kernel
theorem d35_49 : oQ oD19 49 .iadd 1 := by decide +kernel
theorem d35_50 : oQ oD19 50 (.aload_n 0) 1 := by decide +kernel
theorem d35_51 : oQ oD19 51 (.iload_n 3) 1 := by decide +kernel
theorem d35_52 : oQ oD19 52 .iaload 1 := by decide +kernel
theorem d35_53 : oQ oD19 53 .iastore 1 := by decide +kernel
theorem d35_54 : oQ oD19 54 (.goto (-24)) 3 := by decide +kernel
theorem d35_57 : oQ oD19 57 (.aload_n 0) 1 := by decide +kernel
theorem d35_58 : oQ oD19 58 (.iload_n 3) 1 := by decide +kernel
theorem d35_59 : oQ oD19 59 (.iconst 1) 1 := by decide +kernel
theorem d35_60 : oQ oD19 60 .iadd 1 := by decide +kernel
theorem d35_61 : oQ oD19 61 (.iload 5) 2 := by decide +kernel
theorem d35_63 : oQ oD19 63 .iastore 1 := by decide +kernel
theorem d35_64 : oQ oD19 64 (.goto (-61)) 3 := by decide +kernel
theorem d35_67 : oQ oD19 67 .return_ 1 := by decide +kernel
theorem pn_35 : plainName oC10 = true := by first | (simp [plainName, overriddenIn]; done) | decide +kernel
theorem ef_35_0Int32 (m : MethodId) (r0 : Addr) (p2 : Int32) : entryFrame m #[(.ref r0), (.int 0), (.int p2)] 6 = mkF m 0 #[oR r0, oI 0, oI p2, oU, oU, oU] [] := by first | (simp [entryFrame, mkF, argsToLocals, Value.category]; done) | rfl
def rm35_room : Room := { frames := 0, cells := 0, slots := 0, locals := 0 }
def Qrm35 (Z : State) (r0 : Addr) (p2 : Int32) (fi : Nat → Int32) (h0 : Heap) (n0 : Nat) (v : Option Value) (h : Heap) (L : List Loc) : Prop := ∃ gx : Nat → Int32, v = none ∧ Fr n0 L ∧ Keep h0 h [r0] ∧ own_Arf Z h r0 .int (16 : Int32) (fun i => .int (gx i)) ∧ own_srt p2 fi gx
set_option maxRecDepth 65536 in
set_option maxHeartbeats 40000000 in
theorem rm35 (l : Launch) (Z : State) (a0 : Array Value) (hw : oH Z a0) (ws : List Jvm.Cond) (r0 : Addr) (p2 : Int32) (fi : Nat → Int32) (h0 : Heap) (n0 : Nat) (Z0 : n0 ≤ h0.size) (A_r0_0 : own_Arf Z h0 r0 .int (16 : Int32) (fun i => .int (fi i))) (ge_r0 : n0 ≤ r0) (hp : p2 = 2 ∨ p2 = 3) :
    MetFree l oM19 (head1 (Jvm.Cond.code oM19 jdk_2529_method_6_code 6 none :: ws) rm35_room) (fun a U => a = #[(.ref r0), (.int 0), (.int p2)] ∧ Z.Warmed39 U.vm ∧ U.heap = h0) (fun _ _ _ _ _ => True) (fun _ U o U' => ∃ v L, o = .returned v ∧ Qrm35 Z r0 p2 fi h0 n0 v U'.heap L ∧ FrameEnd U o U' L rm35_room.cells rm35_room.slots) := by
 refine MetFree.of_bodySF (plainFor_of_name pn_35) hisR ?_
 intro p e s m args below meth c s₁ Bd hml0 hP hK
 obtain ⟨rfl, hZ, hh⟩ := hP
 have hx := Bd.exec
 have hby := Bd.bytes
 have hml : c.maxLocals = 6 := hml0
 have hown : s.vm.findClass oC10 = some m.cls := findClass_of_methodNamed Bd.named
 have hnm := (name_of_methodNamed Bd.named Bd.method).1
 have hlk : meth.locks = false := BodyLoose.notSynchronized Bd
 have X0 : Stand p l e rm35_room s m #[(.ref r0), (.int 0), (.int p2)] below meth c s₁ [] 0 0 := Stand.of_body Bd
 have e0 : s₁.heap = h0 := by rw [← hh, Bd.state]; rfl
 have N0 := Fr.nil n0
 show own_Fin p.tables e below s (Qrm35 Z r0 p2 fi h0 n0) rm35_room.cells rm35_room.slots (s₁.setTop (entryFrame m #[(.ref r0), (.int 0), (.int p2)] 6))
 rw [ef_35_0Int32]
 show oF (s₁.setTop (mkF m 0 #[oR r0, oI 0, oI p2, oU, oU, oU] []))
 have K0 := Keep.refl h0 [r0]
 refine own_go (fun _ k => XS.iloadN X0.here hx rfl (hb hby d35_0) rfl (XS.istore X0.here hx rfl (hb hby d35_1) rfl (l' := #[oR r0, oI 0, oI p2, oU, oI 0, oU]) rfl k)) ?_
 show oF (s₁.setTop (mkF m 3 #[oR r0, oI 0, oI p2, oU, oI 0, oU] []))
 have loopK : ∀ (kK : Nat) (kk : Int32) (fL : Nat → Int32) (TKL : State) (LKL : List Loc) (hKL : Heap) (j3K : Slot) (j5K : Slot), kK = (8 - kk.toInt).toNat → own_iI p2 fi kk fL → Stand p l e rm35_room s m #[(.ref r0), (.int 0), (.int p2)] below meth c TKL LKL 0 0 → Fr n0 LKL → TKL.heap = hKL → One j3K → One j5K → n0 ≤ hKL.size → Keep h0 hKL [r0] → own_Arf Z hKL r0 .int (16 : Int32) (fun i => .int (fL i)) → own_Fin p.tables e below s (Qrm35 Z r0 p2 fi h0 n0) rm35_room.cells rm35_room.slots (TKL.setTop (mkF m 3 #[oR r0, oI 0, oI p2, j3K, oI kk, j5K] [])) := by
  intro kK
  induction kK using Nat.strongRecOn with
  | _ kK ihK =>
   intro kk fL TKL LKL hKL j3K j5K hkK hI XKL NKL eKL hj3K hj5K ZKL KKL A_r0_KL
   show oF (TKL.setTop (mkF m 3 #[oR r0, oI 0, oI p2, j3K, oI kk, j5K] []))
   refine own_go (fun _ k => XS.iinc XKL.here hx rfl (hb hby d35_3) rfl (l' := #[oR r0, oI 0, oI p2, j3K, .val (.int (kk + (1 : Int32))), j5K]) rfl k) ?_
   show oF (TKL.setTop (mkF m 6 #[oR r0, oI 0, oI p2, j3K, .val (.int (kk + (1 : Int32))), j5K] []))
   by_cases hs1 : (kk + (1 : Int32)) = (1 : Int32)
   ·try rw [hs1]
    show oF (TKL.setTop (mkF m 6 #[oR r0, oI 0, oI p2, j3K, oI 1, j5K] []))
    refine own_go (fun _ k => XS.iload XKL.here hx rfl (hb hby d35_6) rfl (XS.iloadN XKL.here hx rfl (hb hby d35_8) rfl k)) ?_
    have hc9 : (1 : Int32) < p2 := (by rcases hp with rfl | rfl <;> decide)
    refine own_go (fun _ k => XS.icmpNo XKL.here hx rfl (hb hby d35_9) rfl (tlt hc9).2.1 (XS.aloadN XKL.here hx rfl (hb hby d35_12) rfl rfl (XS.iload XKL.here hx rfl (hb hby d35_13) rfl (XS.dup XKL.here hx rfl (hb hby d35_15) rfl rfl (XS.istoreNS XKL.here hx rfl (hb hby d35_16) rfl rfl hj3K k))))) ?_
    refine own_go (fun tg k => own_iaload XKL hx hZ eKL A_r0_KL (j := (1 : Int32)) ⟨by decide, by decide⟩ (x := (fL 1)) rfl (g := (mkF m 17 #[oR r0, oI 0, oI p2, oI 1, oI 1, j5K] [(.int 1), (.ref r0)])) rfl rfl (hb hby d35_17) tg k) ?_
    refine own_go (fun _ k => XS.istoreS XKL.here hx rfl (hb hby d35_18) rfl rfl hj5K (XS.iload XKL.here hx rfl (hb hby d35_20) rfl (XS.aloadN XKL.here hx rfl (hb hby d35_22) rfl rfl (XS.iloadN XKL.here hx rfl (hb hby d35_23) rfl (XS.iconst XKL.here hx rfl (hb hby d35_24) (XS.isub XKL.here hx rfl (hb hby d35_25) rfl k)))))) ?_
    show oF (TKL.setTop (mkF m 26 #[oR r0, oI 0, oI p2, oI 1, oI 1, .val (.int (fL 1))] [(.int 0), (.ref r0), (.int (fL 1))]))
    refine own_go (fun tg k => own_iaload XKL hx hZ eKL A_r0_KL (j := (0 : Int32)) ⟨by decide, by decide⟩ (x := (fL 0)) rfl (g := (mkF m 26 #[oR r0, oI 0, oI p2, oI 1, oI 1, .val (.int (fL 1))] [(.int 0), (.ref r0), (.int (fL 1))])) rfl rfl (hb hby d35_26) tg k) ?_
    by_cases hc2 : (fL 1) < (fL 0)
    ·refine own_go (fun _ k => XS.icmpNo XKL.here hx rfl (hb hby d35_27) rfl (tlt hc2).2.1 (XS.iinc XKL.here hx rfl (hb hby d35_30) rfl (l' := #[oR r0, oI 0, oI p2, oI 0, oI 1, .val (.int (fL 1))]) rfl k)) ?_
     show oF (TKL.setTop (mkF m 33 #[oR r0, oI 0, oI p2, oI 0, oI 1, .val (.int (fL 1))] []))
     refine own_go (fun _ k => XS.iloadN XKL.here hx rfl (hb hby d35_33) rfl (XS.iloadN XKL.here hx rfl (hb hby d35_34) rfl (XS.icmpNo XKL.here hx rfl (hb hby d35_35) rfl (flt (by decide)).1 (XS.iload XKL.here hx rfl (hb hby d35_38) rfl (XS.aloadN XKL.here hx rfl (hb hby d35_40) rfl rfl (XS.iloadN XKL.here hx rfl (hb hby d35_41) rfl k)))))) ?_
     refine own_go (fun tg k => own_iaload XKL hx hZ eKL A_r0_KL (j := (0 : Int32)) ⟨by decide, by decide⟩ (x := (fL 0)) rfl (g := (mkF m 42 #[oR r0, oI 0, oI p2, oI 0, oI 1, .val (.int (fL 1))] [(.int 0), (.ref r0), (.int (fL 1))])) rfl rfl (hb hby d35_42) tg k) ?_
     refine own_go (fun _ k => XS.icmpNo XKL.here hx rfl (hb hby d35_43) rfl (tlt hc2).2.1 (XS.aloadN XKL.here hx rfl (hb hby d35_46) rfl rfl (XS.iloadN XKL.here hx rfl (hb hby d35_47) rfl (XS.iconst XKL.here hx rfl (hb hby d35_48) (XS.iadd XKL.here hx rfl (hb hby d35_49) rfl k))))) ?_
     show oF (TKL.setTop (mkF m 50 #[oR r0, oI 0, oI p2, oI 0, oI 1, .val (.int (fL 1))] [(.int 1), (.ref r0)]))
     refine own_go (fun _ k => XS.aloadN XKL.here hx rfl (hb hby d35_50) rfl rfl (XS.iloadN XKL.here hx rfl (hb hby d35_51) rfl k)) ?_
     refine own_go (fun tg k => own_iaload XKL hx hZ eKL A_r0_KL (j := (0 : Int32)) ⟨by decide, by decide⟩ (x := (fL 0)) rfl (g := (mkF m 52 #[oR r0, oI 0, oI p2, oI 0, oI 1, .val (.int (fL 1))] [(.int 0), (.ref r0), (.int 1), (.ref r0)])) rfl rfl (hb hby d35_52) tg k) ?_
     obtain ⟨T3, h3, X3, e3, W3, A_r0_3, st3⟩ := own_stI XKL hx hZ eKL A_r0_KL (j := (1 : Int32)) ⟨by decide, by decide⟩ (g := (mkF m 53 #[oR r0, oI 0, oI p2, oI 0, oI 1, .val (.int (fL 1))] [(.int (fL 0)), (.int 1), (.ref r0)])) rfl rfl (hb hby d35_53)
     have K3 := KKL.wr W3 (Or.inl (List.mem_of_getElem? (i := 0) rfl))
     have N3 := Fr.snoc X3 NKL ge_r0
     have Z3 : n0 ≤ h3.size := Nat.le_trans ZKL (Keep.of_wr W3).1
     refine own_go (fun tg k => st3 tg k) ?_
     refine own_go (fun _ k => XS.goto X3.here hx rfl (pc0 := 54) (pc' := 30) rfl (hb hby d35_54) (by decide) (by decide) (XS.iinc X3.here hx rfl (hb hby d35_30) rfl (l' := #[oR r0, oI 0, oI p2, .val (.int (-1 : Int32)), oI 1, .val (.int (fL 1))]) rfl k)) ?_
     show oF (T3.setTop (mkF m 33 #[oR r0, oI 0, oI p2, .val (.int (-1 : Int32)), oI 1, .val (.int (fL 1))] []))
     refine own_go (fun _ k => XS.iloadN X3.here hx rfl (hb hby d35_33) rfl (XS.iloadN X3.here hx rfl (hb hby d35_34) rfl (XS.icmpYes X3.here hx rfl (pc0 := 35) (pc' := 57) rfl (hb hby d35_35) rfl (tlt (by decide)).1 (by decide) (by decide) k))) ?_
     show oF (T3.setTop (mkF m 57 #[oR r0, oI 0, oI p2, .val (.int (-1 : Int32)), oI 1, .val (.int (fL 1))] []))
     refine own_go (fun _ k => XS.aloadN X3.here hx rfl (hb hby d35_57) rfl rfl (XS.iloadN X3.here hx rfl (hb hby d35_58) rfl (XS.iconst X3.here hx rfl (hb hby d35_59) (XS.iadd X3.here hx rfl (hb hby d35_60) rfl k)))) ?_
     show oF (T3.setTop (mkF m 61 #[oR r0, oI 0, oI p2, .val (.int (-1 : Int32)), oI 1, .val (.int (fL 1))] [(.int 0), (.ref r0)]))
     refine own_go (fun _ k => XS.iload X3.here hx rfl (hb hby d35_61) rfl k) ?_
     obtain ⟨T4, h4, X4, e4, W4, A_r0_4, st4⟩ := own_stI X3 hx hZ e3 A_r0_3 (j := (0 : Int32)) ⟨by decide, by decide⟩ (g := (mkF m 63 #[oR r0, oI 0, oI p2, .val (.int (-1 : Int32)), oI 1, .val (.int (fL 1))] [(.int (fL 1)), (.int 0), (.ref r0)])) rfl rfl (hb hby d35_63)
     have K4 := K3.wr W4 (Or.inl (List.mem_of_getElem? (i := 0) rfl))
     have N4 := Fr.snoc X4 N3 ge_r0
     have Z4 : n0 ≤ h4.size := Nat.le_trans Z3 (Keep.of_wr W4).1
     refine own_go (fun tg k => st4 tg k) ?_
     show oF (T4.setTop (mkF m 64 #[oR r0, oI 0, oI p2, .val (.int (-1 : Int32)), oI 1, .val (.int (fL 1))] []))
     refine own_go (fun _ k => XS.goto X4.here hx rfl (pc0 := 64) (pc' := 3) rfl (hb hby d35_64) (by decide) (by decide) k) ?_
     show oF (T4.setTop (mkF m 3 #[oR r0, oI 0, oI p2, .val (.int (-1 : Int32)), oI 1, .val (.int (fL 1))] []))
     exact ihK _ (Nat.lt_of_lt_of_eq (own_i1 hI hs1).2 hkK.symm) ((1 : Int32)) ((own_set (own_set fL (1 : Int32) (fL 0)) (0 : Int32) (fL 1))) T4 _ h4 (.val (.int (-1 : Int32))) (.val (.int (fL 1))) rfl (own_iA hI hs1 hc2) (own_mono X4 (by decide) (by decide)) N4 e4 (One.val rfl) (One.val rfl) Z4 K4 A_r0_4
    ·refine own_go (fun _ k => XS.icmpYes XKL.here hx rfl (pc0 := 27) (pc' := 64) rfl (hb hby d35_27) rfl (flt hc2).2.1 (by decide) (by decide) k) ?_
     show oF (TKL.setTop (mkF m 64 #[oR r0, oI 0, oI p2, oI 1, oI 1, .val (.int (fL 1))] []))
     refine own_go (fun _ k => XS.goto XKL.here hx rfl (pc0 := 64) (pc' := 3) rfl (hb hby d35_64) (by decide) (by decide) k) ?_
     show oF (TKL.setTop (mkF m 3 #[oR r0, oI 0, oI p2, oI 1, oI 1, .val (.int (fL 1))] []))
     exact ihK _ (Nat.lt_of_lt_of_eq (own_i1 hI hs1).2 hkK.symm) ((1 : Int32)) (fL) TKL _ hKL (oI 1) (.val (.int (fL 1))) rfl (own_iB hI hs1 hc2) (own_mono XKL (by decide) (by decide)) NKL eKL (One.val rfl) (One.val rfl) ZKL KKL A_r0_KL
   ·by_cases hs5 : (kk + (1 : Int32)) = (2 : Int32)
    ·try rw [hs5]
     show oF (TKL.setTop (mkF m 6 #[oR r0, oI 0, oI p2, j3K, oI 2, j5K] []))
     refine own_go (fun _ k => XS.iload XKL.here hx rfl (hb hby d35_6) rfl (XS.iloadN XKL.here hx rfl (hb hby d35_8) rfl k)) ?_
     by_cases hc6 : (2 : Int32) < p2
     ·refine own_go (fun _ k => XS.icmpNo XKL.here hx rfl (hb hby d35_9) rfl (tlt hc6).2.1 (XS.aloadN XKL.here hx rfl (hb hby d35_12) rfl rfl (XS.iload XKL.here hx rfl (hb hby d35_13) rfl (XS.dup XKL.here hx rfl (hb hby d35_15) rfl rfl (XS.istoreNS XKL.here hx rfl (hb hby d35_16) rfl rfl hj3K k))))) ?_
      refine own_go (fun tg k => own_iaload XKL hx hZ eKL A_r0_KL (j := (2 : Int32)) ⟨by decide, by decide⟩ (x := (fL 2)) rfl (g := (mkF m 17 #[oR r0, oI 0, oI p2, oI 2, oI 2, j5K] [(.int 2), (.ref r0)])) rfl rfl (hb hby d35_17) tg k) ?_
      refine own_go (fun _ k => XS.istoreS XKL.here hx rfl (hb hby d35_18) rfl rfl hj5K (XS.iload XKL.here hx rfl (hb hby d35_20) rfl (XS.aloadN XKL.here hx rfl (hb hby d35_22) rfl rfl (XS.iloadN XKL.here hx rfl (hb hby d35_23) rfl (XS.iconst XKL.here hx rfl (hb hby d35_24) (XS.isub XKL.here hx rfl (hb hby d35_25) rfl k)))))) ?_
      show oF (TKL.setTop (mkF m 26 #[oR r0, oI 0, oI p2, oI 2, oI 2, .val (.int (fL 2))] [(.int 1), (.ref r0), (.int (fL 2))]))
      refine own_go (fun tg k => own_iaload XKL hx hZ eKL A_r0_KL (j := (1 : Int32)) ⟨by decide, by decide⟩ (x := (fL 1)) rfl (g := (mkF m 26 #[oR r0, oI 0, oI p2, oI 2, oI 2, .val (.int (fL 2))] [(.int 1), (.ref r0), (.int (fL 2))])) rfl rfl (hb hby d35_26) tg k) ?_
      by_cases hc7 : (fL 2) < (fL 1)
      ·refine own_go (fun _ k => XS.icmpNo XKL.here hx rfl (hb hby d35_27) rfl (tlt hc7).2.1 (XS.iinc XKL.here hx rfl (hb hby d35_30) rfl (l' := #[oR r0, oI 0, oI p2, oI 1, oI 2, .val (.int (fL 2))]) rfl k)) ?_
       show oF (TKL.setTop (mkF m 33 #[oR r0, oI 0, oI p2, oI 1, oI 2, .val (.int (fL 2))] []))
       refine own_go (fun _ k => XS.iloadN XKL.here hx rfl (hb hby d35_33) rfl (XS.iloadN XKL.here hx rfl (hb hby d35_34) rfl (XS.icmpNo XKL.here hx rfl (hb hby d35_35) rfl (flt (by decide)).1 (XS.iload XKL.here hx rfl (hb hby d35_38) rfl (XS.aloadN XKL.here hx rfl (hb hby d35_40) rfl rfl (XS.iloadN XKL.here hx rfl (hb hby d35_41) rfl k)))))) ?_
       refine own_go (fun tg k => own_iaload XKL hx hZ eKL A_r0_KL (j := (1 : Int32)) ⟨by decide, by decide⟩ (x := (fL 1)) rfl (g := (mkF m 42 #[oR r0, oI 0, oI p2, oI 1, oI 2, .val (.int (fL 2))] [(.int 1), (.ref r0), (.int (fL 2))])) rfl rfl (hb hby d35_42) tg k) ?_
       refine own_go (fun _ k => XS.icmpNo XKL.here hx rfl (hb hby d35_43) rfl (tlt hc7).2.1 (XS.aloadN XKL.here hx rfl (hb hby d35_46) rfl rfl (XS.iloadN XKL.here hx rfl (hb hby d35_47) rfl (XS.iconst XKL.here hx rfl (hb hby d35_48) (XS.iadd XKL.here hx rfl (hb hby d35_49) rfl k))))) ?_
       show oF (TKL.setTop (mkF m 50 #[oR r0, oI 0, oI p2, oI 1, oI 2, .val (.int (fL 2))] [(.int 2), (.ref r0)]))
       refine own_go (fun _ k => XS.aloadN XKL.here hx rfl (hb hby d35_50) rfl rfl (XS.iloadN XKL.here hx rfl (hb hby d35_51) rfl k)) ?_
       refine own_go (fun tg k => own_iaload XKL hx hZ eKL A_r0_KL (j := (1 : Int32)) ⟨by decide, by decide⟩ (x := (fL 1)) rfl (g := (mkF m 52 #[oR r0, oI 0, oI p2, oI 1, oI 2, .val (.int (fL 2))] [(.int 1), (.ref r0), (.int 2), (.ref r0)])) rfl rfl (hb hby d35_52) tg k) ?_
       obtain ⟨T8, h8, X8, e8, W8, A_r0_8, st8⟩ := own_stI XKL hx hZ eKL A_r0_KL (j := (2 : Int32)) ⟨by decide, by decide⟩ (g := (mkF m 53 #[oR r0, oI 0, oI p2, oI 1, oI 2, .val (.int (fL 2))] [(.int (fL 1)), (.int 2), (.ref r0)])) rfl rfl (hb hby d35_53)
       have K8 := KKL.wr W8 (Or.inl (List.mem_of_getElem? (i := 0) rfl))
       have N8 := Fr.snoc X8 NKL ge_r0
       have Z8 : n0 ≤ h8.size := Nat.le_trans ZKL (Keep.of_wr W8).1
       refine own_go (fun tg k => st8 tg k) ?_
       refine own_go (fun _ k => XS.goto X8.here hx rfl (pc0 := 54) (pc' := 30) rfl (hb hby d35_54) (by decide) (by decide) (XS.iinc X8.here hx rfl (hb hby d35_30) rfl (l' := #[oR r0, oI 0, oI p2, oI 0, oI 2, .val (.int (fL 2))]) rfl k)) ?_
       show oF (T8.setTop (mkF m 33 #[oR r0, oI 0, oI p2, oI 0, oI 2, .val (.int (fL 2))] []))
       refine own_go (fun _ k => XS.iloadN X8.here hx rfl (hb hby d35_33) rfl (XS.iloadN X8.here hx rfl (hb hby d35_34) rfl (XS.icmpNo X8.here hx rfl (hb hby d35_35) rfl (flt (by decide)).1 (XS.iload X8.here hx rfl (hb hby d35_38) rfl (XS.aloadN X8.here hx rfl (hb hby d35_40) rfl rfl (XS.iloadN X8.here hx rfl (hb hby d35_41) rfl k)))))) ?_
       refine own_go (fun tg k => own_iaload X8 hx hZ e8 A_r0_8 (j := (0 : Int32)) ⟨by decide, by decide⟩ (x := ((own_set fL (2 : Int32) (fL 1)) 0)) rfl (g := (mkF m 42 #[oR r0, oI 0, oI p2, oI 0, oI 2, .val (.int (fL 2))] [(.int 0), (.ref r0), (.int (fL 2))])) rfl rfl (hb hby d35_42) tg k) ?_
       by_cases hc9 : (fL 2) < ((own_set fL (2 : Int32) (fL 1)) 0)
       ·refine own_go (fun _ k => XS.icmpNo X8.here hx rfl (hb hby d35_43) rfl (tlt hc9).2.1 (XS.aloadN X8.here hx rfl (hb hby d35_46) rfl rfl (XS.iloadN X8.here hx rfl (hb hby d35_47) rfl (XS.iconst X8.here hx rfl (hb hby d35_48) (XS.iadd X8.here hx rfl (hb hby d35_49) rfl k))))) ?_
        show oF (T8.setTop (mkF m 50 #[oR r0, oI 0, oI p2, oI 0, oI 2, .val (.int (fL 2))] [(.int 1), (.ref r0)]))
        refine own_go (fun _ k => XS.aloadN X8.here hx rfl (hb hby d35_50) rfl rfl (XS.iloadN X8.here hx rfl (hb hby d35_51) rfl k)) ?_
        refine own_go (fun tg k => own_iaload X8 hx hZ e8 A_r0_8 (j := (0 : Int32)) ⟨by decide, by decide⟩ (x := ((own_set fL (2 : Int32) (fL 1)) 0)) rfl (g := (mkF m 52 #[oR r0, oI 0, oI p2, oI 0, oI 2, .val (.int (fL 2))] [(.int 0), (.ref r0), (.int 1), (.ref r0)])) rfl rfl (hb hby d35_52) tg k) ?_
        obtain ⟨T10, h10, X10, e10, W10, A_r0_10, st10⟩ := own_stI X8 hx hZ e8 A_r0_8 (j := (1 : Int32)) ⟨by decide, by decide⟩ (g := (mkF m 53 #[oR r0, oI 0, oI p2, oI 0, oI 2, .val (.int (fL 2))] [(.int ((own_set fL (2 : Int32) (fL 1)) 0)), (.int 1), (.ref r0)])) rfl rfl (hb hby d35_53)
        have K10 := K8.wr W10 (Or.inl (List.mem_of_getElem? (i := 0) rfl))
        have N10 := Fr.snoc X10 N8 ge_r0
        have Z10 : n0 ≤ h10.size := Nat.le_trans Z8 (Keep.of_wr W10).1
        refine own_go (fun tg k => st10 tg k) ?_
        refine own_go (fun _ k => XS.goto X10.here hx rfl (pc0 := 54) (pc' := 30) rfl (hb hby d35_54) (by decide) (by decide) (XS.iinc X10.here hx rfl (hb hby d35_30) rfl (l' := #[oR r0, oI 0, oI p2, .val (.int (-1 : Int32)), oI 2, .val (.int (fL 2))]) rfl k)) ?_
        show oF (T10.setTop (mkF m 33 #[oR r0, oI 0, oI p2, .val (.int (-1 : Int32)), oI 2, .val (.int (fL 2))] []))
        refine own_go (fun _ k => XS.iloadN X10.here hx rfl (hb hby d35_33) rfl (XS.iloadN X10.here hx rfl (hb hby d35_34) rfl (XS.icmpYes X10.here hx rfl (pc0 := 35) (pc' := 57) rfl (hb hby d35_35) rfl (tlt (by decide)).1 (by decide) (by decide) k))) ?_
        show oF (T10.setTop (mkF m 57 #[oR r0, oI 0, oI p2, .val (.int (-1 : Int32)), oI 2, .val (.int (fL 2))] []))
        refine own_go (fun _ k => XS.aloadN X10.here hx rfl (hb hby d35_57) rfl rfl (XS.iloadN X10.here hx rfl (hb hby d35_58) rfl (XS.iconst X10.here hx rfl (hb hby d35_59) (XS.iadd X10.here hx rfl (hb hby d35_60) rfl k)))) ?_
        show oF (T10.setTop (mkF m 61 #[oR r0, oI 0, oI p2, .val (.int (-1 : Int32)), oI 2, .val (.int (fL 2))] [(.int 0), (.ref r0)]))
        refine own_go (fun _ k => XS.iload X10.here hx rfl (hb hby d35_61) rfl k) ?_
        obtain ⟨T11, h11, X11, e11, W11, A_r0_11, st11⟩ := own_stI X10 hx hZ e10 A_r0_10 (j := (0 : Int32)) ⟨by decide, by decide⟩ (g := (mkF m 63 #[oR r0, oI 0, oI p2, .val (.int (-1 : Int32)), oI 2, .val (.int (fL 2))] [(.int (fL 2)), (.int 0), (.ref r0)])) rfl rfl (hb hby d35_63)
        have K11 := K10.wr W11 (Or.inl (List.mem_of_getElem? (i := 0) rfl))
        have N11 := Fr.snoc X11 N10 ge_r0
        have Z11 : n0 ≤ h11.size := Nat.le_trans Z10 (Keep.of_wr W11).1
        refine own_go (fun tg k => st11 tg k) ?_
        show oF (T11.setTop (mkF m 64 #[oR r0, oI 0, oI p2, .val (.int (-1 : Int32)), oI 2, .val (.int (fL 2))] []))
        refine own_go (fun _ k => XS.goto X11.here hx rfl (pc0 := 64) (pc' := 3) rfl (hb hby d35_64) (by decide) (by decide) k) ?_
        show oF (T11.setTop (mkF m 3 #[oR r0, oI 0, oI p2, .val (.int (-1 : Int32)), oI 2, .val (.int (fL 2))] []))
        exact ihK _ (Nat.lt_of_lt_of_eq (own_i2 hI hs5).2 hkK.symm) ((2 : Int32)) ((own_set (own_set (own_set fL (2 : Int32) (fL 1)) (1 : Int32) ((own_set fL (2 : Int32) (fL 1)) 0)) (0 : Int32) (fL 2))) T11 _ h11 (.val (.int (-1 : Int32))) (.val (.int (fL 2))) rfl (own_iC hI hs5 hp hc6 hc7 hc9) (own_mono X11 (by decide) (by decide)) N11 e11 (One.val rfl) (One.val rfl) Z11 K11 A_r0_11
       ·refine own_go (fun _ k => XS.icmpYes X8.here hx rfl (pc0 := 43) (pc' := 57) rfl (hb hby d35_43) rfl (flt hc9).2.1 (by decide) (by decide) k) ?_
        show oF (T8.setTop (mkF m 57 #[oR r0, oI 0, oI p2, oI 0, oI 2, .val (.int (fL 2))] []))
        refine own_go (fun _ k => XS.aloadN X8.here hx rfl (hb hby d35_57) rfl rfl (XS.iloadN X8.here hx rfl (hb hby d35_58) rfl (XS.iconst X8.here hx rfl (hb hby d35_59) (XS.iadd X8.here hx rfl (hb hby d35_60) rfl k)))) ?_
        show oF (T8.setTop (mkF m 61 #[oR r0, oI 0, oI p2, oI 0, oI 2, .val (.int (fL 2))] [(.int 1), (.ref r0)]))
        refine own_go (fun _ k => XS.iload X8.here hx rfl (hb hby d35_61) rfl k) ?_
        obtain ⟨T12, h12, X12, e12, W12, A_r0_12, st12⟩ := own_stI X8 hx hZ e8 A_r0_8 (j := (1 : Int32)) ⟨by decide, by decide⟩ (g := (mkF m 63 #[oR r0, oI 0, oI p2, oI 0, oI 2, .val (.int (fL 2))] [(.int (fL 2)), (.int 1), (.ref r0)])) rfl rfl (hb hby d35_63)
        have K12 := K8.wr W12 (Or.inl (List.mem_of_getElem? (i := 0) rfl))
        have N12 := Fr.snoc X12 N8 ge_r0
        have Z12 : n0 ≤ h12.size := Nat.le_trans Z8 (Keep.of_wr W12).1
        refine own_go (fun tg k => st12 tg k) ?_
        show oF (T12.setTop (mkF m 64 #[oR r0, oI 0, oI p2, oI 0, oI 2, .val (.int (fL 2))] []))
        refine own_go (fun _ k => XS.goto X12.here hx rfl (pc0 := 64) (pc' := 3) rfl (hb hby d35_64) (by decide) (by decide) k) ?_
        show oF (T12.setTop (mkF m 3 #[oR r0, oI 0, oI p2, oI 0, oI 2, .val (.int (fL 2))] []))
        exact ihK _ (Nat.lt_of_lt_of_eq (own_i2 hI hs5).2 hkK.symm) ((2 : Int32)) ((own_set (own_set fL (2 : Int32) (fL 1)) (1 : Int32) (fL 2))) T12 _ h12 (oI 0) (.val (.int (fL 2))) rfl (own_iD hI hs5 hp hc6 hc7 hc9) (own_mono X12 (by decide) (by decide)) N12 e12 (One.val rfl) (One.val rfl) Z12 K12 A_r0_12
      ·refine own_go (fun _ k => XS.icmpYes XKL.here hx rfl (pc0 := 27) (pc' := 64) rfl (hb hby d35_27) rfl (flt hc7).2.1 (by decide) (by decide) k) ?_
       show oF (TKL.setTop (mkF m 64 #[oR r0, oI 0, oI p2, oI 2, oI 2, .val (.int (fL 2))] []))
       refine own_go (fun _ k => XS.goto XKL.here hx rfl (pc0 := 64) (pc' := 3) rfl (hb hby d35_64) (by decide) (by decide) k) ?_
       show oF (TKL.setTop (mkF m 3 #[oR r0, oI 0, oI p2, oI 2, oI 2, .val (.int (fL 2))] []))
       exact ihK _ (Nat.lt_of_lt_of_eq (own_i2 hI hs5).2 hkK.symm) ((2 : Int32)) (fL) TKL _ hKL (oI 2) (.val (.int (fL 2))) rfl (own_iE hI hs5 hp hc6 hc7) (own_mono XKL (by decide) (by decide)) NKL eKL (One.val rfl) (One.val rfl) ZKL KKL A_r0_KL
     ·refine own_go (fun _ k => XS.icmpYes XKL.here hx rfl (pc0 := 9) (pc' := 67) rfl (hb hby d35_9) rfl (flt hc6).2.1 (by decide) (by decide) k) ?_
      show oF (TKL.setTop (mkF m 67 #[oR r0, oI 0, oI p2, j3K, oI 2, j5K] []))
      refine own_retV XKL hx hlk Bd.returns (hb hby d35_67) (Nat.le_of_ble_eq_true rfl) (Nat.le_of_ble_eq_true rfl) ?_
      rw [eKL]
      refine ⟨fL, rfl, NKL, KKL, ?_, ?_⟩
      · (first | exact A_r0_KL | (rw [hs5]; exact A_r0_KL))
      · first | (exact own_iX hI hs5 hp hc6) | (simp only [if_neg hs1, if_pos hs5, if_neg hc6]; exact own_iX hI hs5 hp hc6)
    ·have hs13 : (kk + (1 : Int32)) = (3 : Int32) := ((own_iK hI).resolve_left hs1 |>.resolve_left hs5)
     try rw [hs13]
     show oF (TKL.setTop (mkF m 6 #[oR r0, oI 0, oI p2, j3K, oI 3, j5K] []))
     refine own_go (fun _ k => XS.iload XKL.here hx rfl (hb hby d35_6) rfl (XS.iloadN XKL.here hx rfl (hb hby d35_8) rfl k)) ?_
     have hc9 : ¬ ((3 : Int32) < p2) := (by rcases hp with rfl | rfl <;> decide)
     refine own_go (fun _ k => XS.icmpYes XKL.here hx rfl (pc0 := 9) (pc' := 67) rfl (hb hby d35_9) rfl (flt hc9).2.1 (by decide) (by decide) k) ?_
     show oF (TKL.setTop (mkF m 67 #[oR r0, oI 0, oI p2, j3K, oI 3, j5K] []))
     refine own_retV XKL hx hlk Bd.returns (hb hby d35_67) (Nat.le_of_ble_eq_true rfl) (Nat.le_of_ble_eq_true rfl) ?_
     rw [eKL]
     refine ⟨fL, rfl, NKL, KKL, ?_, ?_⟩
     · (first | exact A_r0_KL | (rw [hs13]; exact A_r0_KL))
     · first | (exact own_i3 hI hs13 hp) | (simp only [if_neg hs1, if_neg hs5]; exact own_i3 hI hs13 hp)
 exact loopK _ ((0 : Int32)) (fi) s₁ _ h0 (.unset) (.unset) rfl (Or.inl ⟨rfl, rfl⟩) (own_mono X0 (by decide) (by decide)) N0 e0 One.u One.u Z0 K0 A_r0_0
theorem own_pd409 : parseMethodDescriptor "([III)V" = some ⟨[(.array .int), .int, .int], none⟩ := by decide +kernel
theorem d34_0 : oQ oD20 0 (.iload 4) 2 := by decide +kernel
theorem d34_2 : oQ oD20 2 (.iconst 1) 1 := by decide +kernel
theorem d34_3 : oQ oD20 3 .isub 1 := by decide +kernel
theorem d34_4 : oQ oD20 4 (.istore 5) 2 := by decide +kernel
theorem d34_6 : oQ oD20 6 (.iload 4) 2 := by decide +kernel
theorem d34_8 : oQ oD20 8 (.iload_n 3) 1 := by decide +kernel
theorem d34_9 : oQ oD20 9 .isub 1 := by decide +kernel
theorem d34_10 : oQ oD20 10 (.istore 6) 2 := by decide +kernel
theorem d34_12 : oQ oD20 12 (.iload 6) 2 := by decide +kernel
theorem d34_14 : oQ oD20 14 (.bipush 65) 2 := by decide +kernel
theorem d34_16 : oQ oD20 16 (.iload_n 2) 1 := by decide +kernel
theorem d34_17 : oQ oD20 17 .iadd 1 := by decide +kernel
theorem d34_18 : oQ oD20 18 (.if_icmp .ge 28) 3 := by decide +kernel
theorem d34_21 : oQ oD20 21 (.iload_n 2) 1 := by decide +kernel
theorem d34_22 : oQ oD20 22 (.iconst 1) 1 := by decide +kernel
theorem d34_23 : oQ oD20 23 .iand 1 := by decide +kernel
theorem d34_24 : oQ oD20 24 (.ifCond .le 22) 3 := by decide +kernel
theorem d34_46 : oQ oD20 46 (.iload 6) 2 := by decide +kernel
theorem d34_48 : oQ oD20 48 (.bipush 44) 2 := by decide +kernel
theorem d34_50 : oQ oD20 50 (.if_icmp .ge 11) 3 := by decide +kernel
theorem d34_53 : oQ oD20 53 (.aload_n 1) 1 := by decide +kernel
theorem d34_54 : oQ oD20 54 (.iload_n 3) 1 := by decide +kernel
theorem d34_55 : oQ oD20 55 (.iload 4) 2 := by decide +kernel
theorem d34_57 : oQ oD20 57 (.invokestatic 34) 3 := by decide +kernel
theorem d34_60 : oQ oD20 60 .return_ 1 := by decide +kernel
theorem pn_34 : plainName oC10 = true := by first | (simp [plainName, overriddenIn]; done) | decide +kernel
theorem ef_34_0Int32_0Int32_null (m : MethodId) (r1 : Addr) (p4 : Int32) : entryFrame m #[.null, (.ref r1), (.int 0), (.int 0), (.int p4)] 21 = mkF m 0 #[.val .null, oR r1, oI 0, oI 0, oI p4, oU, oU, oU, oU, oU, oU, oU, oU, oU, oU, oU, oU, oU, oU, oU, oU] [] := by first | (simp [entryFrame, mkF, argsToLocals, Value.category]; done) | rfl
def rm34_room : Room := { frames := 1, cells := 0, slots := 0, locals := 17 }
def Qrm34 (Z : State) (r1 : Addr) (p4 : Int32) (fi : Nat → Int32) (h0 : Heap) (n0 : Nat) (v : Option Value) (h : Heap) (L : List Loc) : Prop := ∃ gx : Nat → Int32, v = none ∧ Fr n0 L ∧ Keep h0 h [r1] ∧ own_Arf Z h r1 .int (16 : Int32) (fun i => .int (gx i)) ∧ own_srt p4 fi gx
set_option maxRecDepth 65536 in
set_option maxHeartbeats 40000000 in
theorem rm34 (l : Launch) (Z : State) (a0 : Array Value) (hw : oH Z a0) (ws : List Jvm.Cond) (r1 : Addr) (p4 : Int32) (fi : Nat → Int32) (h0 : Heap) (n0 : Nat) (Z0 : n0 ≤ h0.size) (A_r1_0 : own_Arf Z h0 r1 .int (16 : Int32) (fun i => .int (fi i))) (ge_r1 : n0 ≤ r1) (hp : p4 = 2 ∨ p4 = 3) :
    MetFree l oM20 (head1 (Jvm.Cond.code oM20 jdk_2529_method_4_code 21 none :: ws) rm34_room) (fun a U => a = #[.null, (.ref r1), (.int 0), (.int 0), (.int p4)] ∧ Z.Warmed39 U.vm ∧ U.heap = h0) (fun _ _ _ _ _ => True) (fun _ U o U' => ∃ v L, o = .returned v ∧ Qrm34 Z r1 p4 fi h0 n0 v U'.heap L ∧ FrameEnd U o U' L rm34_room.cells rm34_room.slots) := by
 refine MetFree.of_bodySF (plainFor_of_name pn_34) hisR ?_
 intro p e s m args below meth c s₁ Bd hml0 hP hK
 obtain ⟨rfl, hZ, hh⟩ := hP
 have hx := Bd.exec
 have hby := Bd.bytes
 have hml : c.maxLocals = 21 := hml0
 have hown : s.vm.findClass oC10 = some m.cls := findClass_of_methodNamed Bd.named
 have hnm := (name_of_methodNamed Bd.named Bd.method).1
 have hlk : meth.locks = false := BodyLoose.notSynchronized Bd
 have X0 : Stand p l e rm34_room s m #[.null, (.ref r1), (.int 0), (.int 0), (.int p4)] below meth c s₁ [] 0 0 := Stand.of_body Bd
 have e0 : s₁.heap = h0 := by rw [← hh, Bd.state]; rfl
 have N0 := Fr.nil n0
 show own_Fin p.tables e below s (Qrm34 Z r1 p4 fi h0 n0) rm34_room.cells rm34_room.slots (s₁.setTop (entryFrame m #[.null, (.ref r1), (.int 0), (.int 0), (.int p4)] 21))
 rw [ef_34_0Int32_0Int32_null]
 show oF (s₁.setTop (mkF m 0 #[.val .null, oR r1, oI 0, oI 0, oI p4, oU, oU, oU, oU, oU, oU, oU, oU, oU, oU, oU, oU, oU, oU, oU, oU] []))
 have K0 := Keep.refl h0 [r1]
 refine own_go (fun _ k => XS.iload X0.here hx rfl (hb hby d34_0) rfl (XS.iconst X0.here hx rfl (hb hby d34_2) (XS.isub X0.here hx rfl (hb hby d34_3) rfl (XS.istore X0.here hx rfl (hb hby d34_4) rfl (l' := #[.val .null, oR r1, oI 0, oI 0, oI p4, .val (.int (p4 - (1 : Int32))), oU, oU, oU, oU, oU, oU, oU, oU, oU, oU, oU, oU, oU, oU, oU]) rfl (XS.iload X0.here hx rfl (hb hby d34_6) rfl (XS.iloadN X0.here hx rfl (hb hby d34_8) rfl (XS.isub X0.here hx rfl (hb hby d34_9) rfl (XS.istore X0.here hx rfl (hb hby d34_10) rfl (l' := #[.val .null, oR r1, oI 0, oI 0, oI p4, .val (.int (p4 - (1 : Int32))), .val (.int (p4 - (0 : Int32))), oU, oU, oU, oU, oU, oU, oU, oU, oU, oU, oU, oU, oU, oU]) rfl (XS.iload X0.here hx rfl (hb hby d34_12) rfl (XS.bipush X0.here hx rfl (hb hby d34_14) (XS.iloadN X0.here hx rfl (hb hby d34_16) rfl (XS.iadd X0.here hx rfl (hb hby d34_17) rfl k)))))))))))) ?_
 show oF (s₁.setTop (mkF m 18 #[.val .null, oR r1, oI 0, oI 0, oI p4, .val (.int (p4 - (1 : Int32))), .val (.int (p4 - (0 : Int32))), oU, oU, oU, oU, oU, oU, oU, oU, oU, oU, oU, oU, oU, oU] [(.int 65), (.int (p4 - (0 : Int32)))]))
 have hc18 : (p4 - (0 : Int32)) < (65 : Int32) := (own_p23 hp).2.2.1
 refine own_go (fun _ k => XS.icmpNo X0.here hx rfl (hb hby d34_18) rfl (tlt hc18).2.1 (XS.iloadN X0.here hx rfl (hb hby d34_21) rfl (XS.iconst X0.here hx rfl (hb hby d34_22) (XS.iand X0.here hx rfl (hb hby d34_23) rfl k)))) ?_
 show oF (s₁.setTop (mkF m 24 #[.val .null, oR r1, oI 0, oI 0, oI p4, .val (.int (p4 - (1 : Int32))), .val (.int (p4 - (0 : Int32))), oU, oU, oU, oU, oU, oU, oU, oU, oU, oU, oU, oU, oU, oU] [(.int 0)]))
 refine own_go (fun _ k => XS.ifYes X0.here hx rfl (pc0 := 24) (pc' := 46) rfl (hb hby d34_24) rfl ((if0 _ _).trans (flt (by decide)).2.2.2) (by decide) (by decide) (XS.iload X0.here hx rfl (hb hby d34_46) rfl (XS.bipush X0.here hx rfl (hb hby d34_48) k))) ?_
 have hc50 : (p4 - (0 : Int32)) < (44 : Int32) := (own_p23 hp).2.2.2
 refine own_go (fun _ k => XS.icmpNo X0.here hx rfl (hb hby d34_50) rfl (tlt hc50).2.1 (XS.aloadN X0.here hx rfl (hb hby d34_53) rfl rfl (XS.iloadN X0.here hx rfl (hb hby d34_54) rfl (XS.iload X0.here hx rfl (hb hby d34_55) rfl k)))) ?_
 have cq := Jvm.LawKit.callS X0 hx (y := oM19) hown (mvT hZ (oW hw 220 rfl)) (mvT hZ (oW hw 221 rfl)) (mvT hZ (oW hw 215 rfl)) (mvT hZ (oW hw 222 rfl)) (by decide) (backOf (W := 0) (rm35 l Z a0 hw [] r1 p4 fi h0 n0 Z0 A_r1_0 ge_r1 hp) hZ (oW hw 222 rfl) (oW hw 215 rfl) (by decide) (by decide)) (g := (mkF m 57 #[.val .null, oR r1, oI 0, oI 0, oI p4, .val (.int (p4 - (1 : Int32))), .val (.int (p4 - (0 : Int32))), oU, oU, oU, oU, oU, oU, oU, oU, oU, oU, oU, oU, oU, oU] [(.int p4), (.int 0), (.ref r1)])) rfl (by rw [hml]; rfl) (argsL := [(.ref r1), (.int 0), (.int p4)]) (rest := []) (lenOf own_pd409 rfl) rfl (by show 2 * 0 + _ ≤ _; exact Nat.le_of_eq rfl) (hb hby d34_57) (fun _ _ => ⟨rfl, e0, (by decide : 0 + 0 ≤ _), (by decide : 0 + 0 ≤ _)⟩)
 obtain ⟨_, _, ⟨T1, L1, k1, n1⟩, -, X1, ⟨Lc1, hQ1, l1, y1, z1⟩, st1⟩ := cq
 dsimp only [Pt.U, Pt.locs, Pt.cells, Pt.slots] at X1 l1 y1 z1 st1 hQ1
 replace y1 : 0 = k1 := y1.symm
 replace z1 : 0 = n1 := z1.symm
 subst y1 z1
 obtain ⟨gx1, rfl, N1q, Kq1, A_r1_1, Pq1_1⟩ := hQ1
 have N1 : Fr n0 L1 := by rw [l1]; exact Fr.app N0 N1q
 have K1 := Keep.trans K0 Kq1 (allS (Or.inl (List.mem_of_getElem? (i := 0) rfl)) all0)
 have Z1 : n0 ≤ T1.heap.size := Nat.le_trans Z0 Kq1.1
 refine own_go (fun tg k => st1 tg k) ?_
 show oF (T1.setTop (mkF m 60 #[.val .null, oR r1, oI 0, oI 0, oI p4, .val (.int (p4 - (1 : Int32))), .val (.int (p4 - (0 : Int32))), oU, oU, oU, oU, oU, oU, oU, oU, oU, oU, oU, oU, oU, oU] []))
 refine own_retV X1 hx hlk Bd.returns (hb hby d34_60) (Nat.le_of_ble_eq_true rfl) (Nat.le_of_ble_eq_true rfl) ?_
 refine ⟨gx1, rfl, N1, K1, ?_, ?_⟩
 · (exact A_r1_1)
 · (exact Pq1_1)
theorem own_pd437 : parseMethodDescriptor "(Ljava/util/DualPivotQuicksort$Sorter;[IIII)V" = some ⟨[(.object "java/util/DualPivotQuicksort$Sorter"), (.array .int), .int, .int, .int], none⟩ := by decide +kernel
theorem d33_0 : oQ oD21 0 (.iload_n 3) 1 := by decide +kernel
theorem d33_1 : oQ oD21 1 (.iload_n 2) 1 := by decide +kernel
theorem d33_2 : oQ oD21 2 .isub 1 := by decide +kernel
theorem d33_3 : oQ oD21 3 (.istore 4) 2 := by decide +kernel
theorem d33_5 : oQ oD21 5 (.iload_n 1) 1 := by decide +kernel
theorem d33_6 : oQ oD21 6 (.iconst 1) 1 := by decide +kernel
theorem d33_7 : oQ oD21 7 (.if_icmp .le 61) 3 := by decide +kernel
theorem d33_68 : oQ oD21 68 .aconst_null 1 := by decide +kernel
theorem d33_69 : oQ oD21 69 (.aload_n 0) 1 := by decide +kernel
theorem d33_70 : oQ oD21 70 (.iconst 0) 1 := by decide +kernel
theorem d33_71 : oQ oD21 71 (.iload_n 2) 1 := by decide +kernel
theorem d33_72 : oQ oD21 72 (.iload_n 3) 1 := by decide +kernel
theorem d33_73 : oQ oD21 73 (.invokestatic 26) 3 := by decide +kernel
theorem d33_76 : oQ oD21 76 .return_ 1 := by decide +kernel
theorem pn_33 : plainName oC10 = true := by first | (simp [plainName, overriddenIn]; done) | decide +kernel
theorem ef_33_0Int32_0Int32 (m : MethodId) (r0 : Addr) (p3 : Int32) : entryFrame m #[(.ref r0), (.int 0), (.int 0), (.int p3)] 7 = mkF m 0 #[oR r0, oI 0, oI 0, oI p3, oU, oU, oU] [] := by first | (simp [entryFrame, mkF, argsToLocals, Value.category]; done) | rfl
def rm33_room : Room := { frames := 2, cells := 0, slots := 0, locals := 49 }
def Qrm33 (Z : State) (r0 : Addr) (p3 : Int32) (fi : Nat → Int32) (h0 : Heap) (n0 : Nat) (v : Option Value) (h : Heap) (L : List Loc) : Prop := ∃ gx : Nat → Int32, v = none ∧ Fr n0 L ∧ Keep h0 h [r0] ∧ own_Arf Z h r0 .int (16 : Int32) (fun i => .int (gx i)) ∧ own_srt p3 fi gx
set_option maxRecDepth 65536 in
set_option maxHeartbeats 40000000 in
theorem rm33 (l : Launch) (Z : State) (a0 : Array Value) (hw : oH Z a0) (ws : List Jvm.Cond) (r0 : Addr) (p3 : Int32) (fi : Nat → Int32) (h0 : Heap) (n0 : Nat) (Z0 : n0 ≤ h0.size) (A_r0_0 : own_Arf Z h0 r0 .int (16 : Int32) (fun i => .int (fi i))) (ge_r0 : n0 ≤ r0) (hp : p3 = 2 ∨ p3 = 3) :
    MetFree l oM21 (head1 (Jvm.Cond.code oM21 jdk_2529_method_3_code 7 none :: ws) rm33_room) (fun a U => a = #[(.ref r0), (.int 0), (.int 0), (.int p3)] ∧ Z.Warmed39 U.vm ∧ U.heap = h0) (fun _ _ _ _ _ => True) (fun _ U o U' => ∃ v L, o = .returned v ∧ Qrm33 Z r0 p3 fi h0 n0 v U'.heap L ∧ FrameEnd U o U' L rm33_room.cells rm33_room.slots) := by
 refine MetFree.of_bodySF (plainFor_of_name pn_33) hisR ?_
 intro p e s m args below meth c s₁ Bd hml0 hP hK
 obtain ⟨rfl, hZ, hh⟩ := hP
 have hx := Bd.exec
 have hby := Bd.bytes
 have hml : c.maxLocals = 7 := hml0
 have hown : s.vm.findClass oC10 = some m.cls := findClass_of_methodNamed Bd.named
 have hnm := (name_of_methodNamed Bd.named Bd.method).1
 have hlk : meth.locks = false := BodyLoose.notSynchronized Bd
 have X0 : Stand p l e rm33_room s m #[(.ref r0), (.int 0), (.int 0), (.int p3)] below meth c s₁ [] 0 0 := Stand.of_body Bd
 have e0 : s₁.heap = h0 := by rw [← hh, Bd.state]; rfl
 have N0 := Fr.nil n0
 show own_Fin p.tables e below s (Qrm33 Z r0 p3 fi h0 n0) rm33_room.cells rm33_room.slots (s₁.setTop (entryFrame m #[(.ref r0), (.int 0), (.int 0), (.int p3)] 7))
 rw [ef_33_0Int32_0Int32]
 show oF (s₁.setTop (mkF m 0 #[oR r0, oI 0, oI 0, oI p3, oU, oU, oU] []))
 have K0 := Keep.refl h0 [r0]
 refine own_go (fun _ k => XS.iloadN X0.here hx rfl (hb hby d33_0) rfl (XS.iloadN X0.here hx rfl (hb hby d33_1) rfl (XS.isub X0.here hx rfl (hb hby d33_2) rfl (XS.istore X0.here hx rfl (hb hby d33_3) rfl (l' := #[oR r0, oI 0, oI 0, oI p3, .val (.int (p3 - (0 : Int32))), oU, oU]) rfl (XS.iloadN X0.here hx rfl (hb hby d33_5) rfl (XS.iconst X0.here hx rfl (hb hby d33_6) (XS.icmpYes X0.here hx rfl (pc0 := 7) (pc' := 68) rfl (hb hby d33_7) rfl (flt (by decide)).2.2.2 (by decide) (by decide) (XS.aconstNull X0.here hx rfl (hb hby d33_68) (XS.aloadN X0.here hx rfl (hb hby d33_69) rfl rfl (XS.iconst X0.here hx rfl (hb hby d33_70) (XS.iloadN X0.here hx rfl (hb hby d33_71) rfl (XS.iloadN X0.here hx rfl (hb hby d33_72) rfl k)))))))))))) ?_
 have cq := Jvm.LawKit.callS X0 hx (y := oM20) hown (mvT hZ (oW hw 217 rfl)) (mvT hZ (oW hw 218 rfl)) (mvT hZ (oW hw 215 rfl)) (mvT hZ (oW hw 219 rfl)) (by decide) (backOf (W := 0) (rm34 l Z a0 hw [] r0 p3 fi h0 n0 Z0 A_r0_0 ge_r0 hp) hZ (oW hw 219 rfl) (oW hw 215 rfl) (by decide) (by decide)) (g := (mkF m 73 #[oR r0, oI 0, oI 0, oI p3, .val (.int (p3 - (0 : Int32))), oU, oU] [(.int p3), (.int 0), (.int 0), (.ref r0), .null])) rfl (by rw [hml]; rfl) (argsL := [.null, (.ref r0), (.int 0), (.int 0), (.int p3)]) (rest := []) (lenOf own_pd437 rfl) rfl (by show 2 * 0 + _ ≤ _; exact Nat.le_of_eq rfl) (hb hby d33_73) (fun _ _ => ⟨rfl, e0, (by decide : 0 + 0 ≤ _), (by decide : 0 + 0 ≤ _)⟩)
 obtain ⟨_, _, ⟨T1, L1, k1, n1⟩, -, X1, ⟨Lc1, hQ1, l1, y1, z1⟩, st1⟩ := cq
 dsimp only [Pt.U, Pt.locs, Pt.cells, Pt.slots] at X1 l1 y1 z1 st1 hQ1
 replace y1 : 0 = k1 := y1.symm
 replace z1 : 0 = n1 := z1.symm
 subst y1 z1
 obtain ⟨gx1, rfl, N1q, Kq1, A_r0_1, Pq1_1⟩ := hQ1
 have N1 : Fr n0 L1 := by rw [l1]; exact Fr.app N0 N1q
 have K1 := Keep.trans K0 Kq1 (allS (Or.inl (List.mem_of_getElem? (i := 0) rfl)) all0)
 have Z1 : n0 ≤ T1.heap.size := Nat.le_trans Z0 Kq1.1
 refine own_go (fun tg k => st1 tg k) ?_
 show oF (T1.setTop (mkF m 76 #[oR r0, oI 0, oI 0, oI p3, .val (.int (p3 - (0 : Int32))), oU, oU] []))
 refine own_retV X1 hx hlk Bd.returns (hb hby d33_76) (Nat.le_of_ble_eq_true rfl) (Nat.le_of_ble_eq_true rfl) ?_
 refine ⟨gx1, rfl, N1, K1, ?_, ?_⟩
 · (exact A_r0_1)
 · (exact Pq1_1)
theorem own_pd454 : parseMethodDescriptor "([IIII)V" = some ⟨[(.array .int), .int, .int, .int], none⟩ := by decide +kernel
theorem d32_0 : oQ oD22 0 (.aload_n 0) 1 := by decide +kernel
theorem d32_1 : oQ oD22 1 .arraylength 1 := by decide +kernel
theorem d32_2 : oQ oD22 2 (.iload_n 1) 1 := by decide +kernel
theorem d32_3 : oQ oD22 3 (.iload_n 2) 1 := by decide +kernel
theorem d32_4 : oQ oD22 4 (.invokestatic 13) 3 := by decide +kernel
theorem d32_7 : oQ oD22 7 (.aload_n 0) 1 := by decide +kernel
theorem d32_8 : oQ oD22 8 (.iconst 0) 1 := by decide +kernel
theorem d32_9 : oQ oD22 9 (.iload_n 1) 1 := by decide +kernel
theorem d32_10 : oQ oD22 10 (.iload_n 2) 1 := by decide +kernel
theorem d32_11 : oQ oD22 11 (.invokestatic 7) 3 := by decide +kernel
theorem d32_14 : oQ oD22 14 .return_ 1 := by decide +kernel
theorem pn_32 : plainName oC11 = true := by first | (simp [plainName, overriddenIn]; done) | decide +kernel
theorem ef_32_0Int32 (m : MethodId) (r0 : Addr) (p2 : Int32) : entryFrame m #[(.ref r0), (.int 0), (.int p2)] 3 = mkF m 0 #[oR r0, oI 0, oI p2] [] := by first | (simp [entryFrame, mkF, argsToLocals, Value.category]; done) | rfl
def rm32_room : Room := { frames := 3, cells := 0, slots := 0, locals := 67 }
def Qrm32 (Z : State) (r0 : Addr) (p2 : Int32) (fi : Nat → Int32) (h0 : Heap) (n0 : Nat) (v : Option Value) (h : Heap) (L : List Loc) : Prop := ∃ gx : Nat → Int32, v = none ∧ Fr n0 L ∧ Keep h0 h [r0] ∧ own_Arf Z h r0 .int (16 : Int32) (fun i => .int (gx i)) ∧ own_srt p2 fi gx
set_option maxRecDepth 65536 in
set_option maxHeartbeats 40000000 in
theorem rm32 (l : Launch) (Z : State) (a0 : Array Value) (hw : oH Z a0) (ws : List Jvm.Cond) (r0 : Addr) (p2 : Int32) (fi : Nat → Int32) (h0 : Heap) (n0 : Nat) (Z0 : n0 ≤ h0.size) (A_r0_0 : own_Arf Z h0 r0 .int (16 : Int32) (fun i => .int (fi i))) (ge_r0 : n0 ≤ r0) (hp : p2 = 2 ∨ p2 = 3) :
    MetFree l oM22 (head1 (Jvm.Cond.code oM22 jdk_65_method_3_code 3 none :: ws) rm32_room) (fun a U => a = #[(.ref r0), (.int 0), (.int p2)] ∧ Z.Warmed39 U.vm ∧ U.heap = h0) (fun _ _ _ _ _ => True) (fun _ U o U' => ∃ v L, o = .returned v ∧ Qrm32 Z r0 p2 fi h0 n0 v U'.heap L ∧ FrameEnd U o U' L rm32_room.cells rm32_room.slots) := by
 refine MetFree.of_bodySF (plainFor_of_name pn_32) hisR ?_
 intro p e s m args below meth c s₁ Bd hml0 hP hK
 obtain ⟨rfl, hZ, hh⟩ := hP
 have hx := Bd.exec
 have hby := Bd.bytes
 have hml : c.maxLocals = 3 := hml0
 have hown : s.vm.findClass oC11 = some m.cls := findClass_of_methodNamed Bd.named
 have hnm := (name_of_methodNamed Bd.named Bd.method).1
 have hlk : meth.locks = false := BodyLoose.notSynchronized Bd
 have X0 : Stand p l e rm32_room s m #[(.ref r0), (.int 0), (.int p2)] below meth c s₁ [] 0 0 := Stand.of_body Bd
 have e0 : s₁.heap = h0 := by rw [← hh, Bd.state]; rfl
 have N0 := Fr.nil n0
 show own_Fin p.tables e below s (Qrm32 Z r0 p2 fi h0 n0) rm32_room.cells rm32_room.slots (s₁.setTop (entryFrame m #[(.ref r0), (.int 0), (.int p2)] 3))
 rw [ef_32_0Int32]
 show oF (s₁.setTop (mkF m 0 #[oR r0, oI 0, oI p2] []))
 have K0 := Keep.refl h0 [r0]
 refine own_go (fun _ k => XS.aloadN X0.here hx rfl (hb hby d32_0) rfl rfl k) ?_
 refine own_go (fun tg k => own_alen X0 hx hZ e0 A_r0_0 (g := (mkF m 1 #[oR r0, oI 0, oI p2] [(.ref r0)])) rfl rfl (hb hby d32_1) tg k) ?_
 refine own_go (fun _ k => XS.iloadN X0.here hx rfl (hb hby d32_2) rfl (XS.iloadN X0.here hx rfl (hb hby d32_3) rfl k)) ?_
 have cq := Jvm.LawKit.callS X0 hx (y := oM13) hown (mvT hZ (oW hw 196 rfl)) (mvT hZ (oW hw 197 rfl)) (mvT hZ (oW hw 194 rfl)) (mvT hZ (oW hw 198 rfl)) (by decide) (backOf (W := 0) (rm29 l Z a0 hw [] (16 : Int32) (0 : Int32) p2 h0 n0 Z0 (own_p23 hp).1 (by decide) (own_p23 hp).2.1) hZ (oW hw 198 rfl) (oW hw 194 rfl) (by decide) (by decide)) (g := (mkF m 4 #[oR r0, oI 0, oI p2] [(.int p2), (.int 0), (.int 16)])) rfl (by rw [hml]; rfl) (argsL := [(.int 16), (.int 0), (.int p2)]) (rest := []) (lenOf own_pd222 rfl) rfl (by show 2 * 0 + _ ≤ _; exact Nat.le_of_eq rfl) (hb hby d32_4) (fun _ _ => ⟨rfl, e0, (by decide : 0 + 0 ≤ _), (by decide : 0 + 0 ≤ _)⟩)
 obtain ⟨_, _, ⟨T1, L1, k1, n1⟩, -, X1, ⟨Lc1, hQ1, l1, y1, z1⟩, st1⟩ := cq
 dsimp only [Pt.U, Pt.locs, Pt.cells, Pt.slots] at X1 l1 y1 z1 st1 hQ1
 replace y1 : 0 = k1 := y1.symm
 replace z1 : 0 = n1 := z1.symm
 subst y1 z1
 obtain ⟨rfl, N1q, e1⟩ := hQ1
 have N1 : Fr n0 L1 := by rw [l1]; exact Fr.app N0 N1q
 refine own_go (fun tg k => st1 tg k) ?_
 show oF (T1.setTop (mkF m 7 #[oR r0, oI 0, oI p2] []))
 refine own_go (fun _ k => XS.aloadN X1.here hx rfl (hb hby d32_7) rfl rfl (XS.iconst X1.here hx rfl (hb hby d32_8) (XS.iloadN X1.here hx rfl (hb hby d32_9) rfl (XS.iloadN X1.here hx rfl (hb hby d32_10) rfl k)))) ?_
 have cq := Jvm.LawKit.callS X1 hx (y := oM21) hown (mvT hZ (oW hw 213 rfl)) (mvT hZ (oW hw 214 rfl)) (mvT hZ (oW hw 215 rfl)) (mvT hZ (oW hw 216 rfl)) (by decide) (backOf (W := 0) (rm33 l Z a0 hw [] r0 p2 fi h0 n0 Z0 A_r0_0 ge_r0 hp) hZ (oW hw 216 rfl) (oW hw 215 rfl) (by decide) (by decide)) (g := (mkF m 11 #[oR r0, oI 0, oI p2] [(.int p2), (.int 0), (.int 0), (.ref r0)])) rfl (by rw [hml]; rfl) (argsL := [(.ref r0), (.int 0), (.int 0), (.int p2)]) (rest := []) (lenOf own_pd454 rfl) rfl (by show 2 * 0 + _ ≤ _; exact Nat.le_of_eq rfl) (hb hby d32_11) (fun _ _ => ⟨rfl, e1, (by decide : 0 + 0 ≤ _), (by decide : 0 + 0 ≤ _)⟩)
 obtain ⟨_, _, ⟨T2, L2, k2, n2⟩, -, X2, ⟨Lc2, hQ2, l2, y2, z2⟩, st2⟩ := cq
 dsimp only [Pt.U, Pt.locs, Pt.cells, Pt.slots] at X2 l2 y2 z2 st2 hQ2
 replace y2 : 0 = k2 := y2.symm
 replace z2 : 0 = n2 := z2.symm
 subst y2 z2
 obtain ⟨gx2, rfl, N2q, Kq2, A_r0_2, Pq2_1⟩ := hQ2
 have N2 : Fr n0 L2 := by rw [l2]; exact Fr.app N1 N2q
 have K2 := Keep.trans K0 Kq2 (allS (Or.inl (List.mem_of_getElem? (i := 0) rfl)) all0)
 have Z2 : n0 ≤ T2.heap.size := Nat.le_trans Z0 Kq2.1
 refine own_go (fun tg k => st2 tg k) ?_
 show oF (T2.setTop (mkF m 14 #[oR r0, oI 0, oI p2] []))
 refine own_retV X2 hx hlk Bd.returns (hb hby d32_14) (Nat.le_of_ble_eq_true rfl) (Nat.le_of_ble_eq_true rfl) ?_
 refine ⟨gx2, rfl, N2, K2, ?_, ?_⟩
 · (exact A_r0_2)
 · (exact Pq2_1)
theorem d31_0 : oQ oD23 0 (.aload_n 0) 1 := by decide +kernel
theorem d31_1 : oQ oD23 1 (.getfield 7) 3 := by decide +kernel
theorem d31_4 : oQ oD23 4 (.iconst 0) 1 := by decide +kernel
theorem d31_5 : oQ oD23 5 (.aload_n 0) 1 := by decide +kernel
theorem d31_6 : oQ oD23 6 (.getfield 13) 3 := by decide +kernel
theorem d31_9 : oQ oD23 9 (.invokestatic 35) 3 := by decide +kernel
theorem d31_12 : oQ oD23 12 .return_ 1 := by decide +kernel
theorem pn_31 : plainName oC3 = true := by first | (simp [plainName, overriddenIn]; done) | decide +kernel
theorem ef_31 (m : MethodId) (r0 : Addr) : entryFrame m #[(.ref r0)] 1 = mkF m 0 #[oR r0] [] := by first | (simp [entryFrame, mkF, argsToLocals, Value.category]; done) | rfl
def rm31_room : Room := { frames := 4, cells := 0, slots := 0, locals := 81 }
def Qrm31 (Z : State) (r0 : Addr) (ix : Addr) (x1 : Int32) (fi : Nat → Int32) (h0 : Heap) (n0 : Nat) (v : Option Value) (h : Heap) (L : List Loc) : Prop := ∃ gx : Nat → Int32, v = none ∧ Fr n0 L ∧ Keep h0 h [ix] ∧ own_Arf Z h ix .int (16 : Int32) (fun i => .int (gx i)) ∧ own_srt x1 fi gx
set_option maxRecDepth 65536 in
set_option maxHeartbeats 40000000 in
theorem rm31 (l : Launch) (Z : State) (a0 : Array Value) (hw : oH Z a0) (ws : List Jvm.Cond) (r0 : Addr) (ix : Addr) (x1 : Int32) (fi : Nat → Int32) (h0 : Heap) (n0 : Nat) (Z0 : n0 ≤ h0.size) (E_r0_0 : Exa Z h0 r0 oC3) (F_indices_r0_0 : Fld Z h0 r0 oC3 "indices" "[I" (.ref ix)) (F_size_r0_0 : Fld Z h0 r0 oC3 "size" "I" (.int x1)) (A_ix_0 : own_Arf Z h0 ix .int (16 : Int32) (fun i => .int (fi i))) (ge_ix : n0 ≤ ix) (hp : x1 = 2 ∨ x1 = 3) :
    MetFree l oM23 (head1 (Jvm.Cond.code oM23 prog_26_method_5_code 1 none :: ws) rm31_room) (fun a U => a = #[(.ref r0)] ∧ Z.Warmed39 U.vm ∧ U.heap = h0) (fun _ _ _ _ _ => True) (fun _ U o U' => ∃ v L, o = .returned v ∧ Qrm31 Z r0 ix x1 fi h0 n0 v U'.heap L ∧ FrameEnd U o U' L rm31_room.cells rm31_room.slots) := by
 refine MetFree.of_bodySF (plainFor_of_name pn_31) hisR ?_
 intro p e s m args below meth c s₁ Bd hml0 hP hK
 obtain ⟨rfl, hZ, hh⟩ := hP
 have hx := Bd.exec
 have hby := Bd.bytes
 have hml : c.maxLocals = 1 := hml0
 have hown : s.vm.findClass oC3 = some m.cls := findClass_of_methodNamed Bd.named
 have hnm := (name_of_methodNamed Bd.named Bd.method).1
 have hlk : meth.locks = false := BodyLoose.notSynchronized Bd
 have X0 : Stand p l e rm31_room s m #[(.ref r0)] below meth c s₁ [] 0 0 := Stand.of_body Bd
 have e0 : s₁.heap = h0 := by rw [← hh, Bd.state]; rfl
 have N0 := Fr.nil n0
 show own_Fin p.tables e below s (Qrm31 Z r0 ix x1 fi h0 n0) rm31_room.cells rm31_room.slots (s₁.setTop (entryFrame m #[(.ref r0)] 1))
 rw [ef_31]
 show oF (s₁.setTop (mkF m 0 #[oR r0] []))
 have K0 := Keep.refl h0 [ix]
 refine own_go (fun _ k => XS.aloadN X0.here hx rfl (hb hby d31_0) rfl rfl k) ?_
 obtain ⟨T1, X1, e1, st1⟩ := getF X0 hx hZ hown (host := "") (Or.inl (oW hw 50 rfl)) Via.refl e0 F_indices_r0_0 (g := (mkF m 1 #[oR r0] [(.ref r0)])) rfl rfl (hb hby d31_1)
 refine own_go (fun tg k => st1 tg k) ?_
 refine own_go (fun _ k => XS.iconst X1.here hx rfl (hb hby d31_4) (XS.aloadN X1.here hx rfl (hb hby d31_5) rfl rfl k)) ?_
 obtain ⟨T2, X2, e2, st2⟩ := getF X1 hx hZ hown (host := "") (Or.inl (oW hw 113 rfl)) Via.refl e1 F_size_r0_0 (g := (mkF m 6 #[oR r0] [(.ref r0), (.int 0), (.ref ix)])) rfl rfl (hb hby d31_6)
 refine own_go (fun tg k => st2 tg k) ?_
 have cq := Jvm.LawKit.callS X2 hx (y := oM22) hown (mvT hZ (oW hw 210 rfl)) (mvT hZ (oW hw 211 rfl)) (mvT hZ (oW hw 194 rfl)) (mvT hZ (oW hw 212 rfl)) (by decide) (backOf (W := 0) (rm32 l Z a0 hw [] ix x1 fi h0 n0 Z0 A_ix_0 ge_ix hp) hZ (oW hw 212 rfl) (oW hw 194 rfl) (by decide) (by decide)) (g := (mkF m 9 #[oR r0] [(.int x1), (.int 0), (.ref ix)])) rfl (by rw [hml]; rfl) (argsL := [(.ref ix), (.int 0), (.int x1)]) (rest := []) (lenOf own_pd409 rfl) rfl (by show 2 * 0 + _ ≤ _; exact Nat.le_of_eq rfl) (hb hby d31_9) (fun _ _ => ⟨rfl, e2, (by decide : 0 + 0 ≤ _), (by decide : 0 + 0 ≤ _)⟩)
 obtain ⟨_, _, ⟨T3, L3, k3, n3⟩, -, X3, ⟨Lc3, hQ3, l3, y3, z3⟩, st3⟩ := cq
 dsimp only [Pt.U, Pt.locs, Pt.cells, Pt.slots] at X3 l3 y3 z3 st3 hQ3
 replace y3 : 0 = k3 := y3.symm
 replace z3 : 0 = n3 := z3.symm
 subst y3 z3
 obtain ⟨gx3, rfl, N3q, Kq3, A_ix_3, Pq3_1⟩ := hQ3
 have N3 : Fr n0 L3 := by rw [l3]; exact Fr.app N0 N3q
 have E_r0_3 := E_r0_0.keep Kq3
 have u3_r0 := (ninS (own_ne_arf E_r0_0 (oW hw 43 rfl) A_ix_0) nin0)
 have F_indices_r0_3 := F_indices_r0_0.keep Kq3 u3_r0
 have F_size_r0_3 := F_size_r0_0.keep Kq3 u3_r0
 have K3 := Keep.trans K0 Kq3 (allS (Or.inl (List.mem_of_getElem? (i := 0) rfl)) all0)
 have Z3 : n0 ≤ T3.heap.size := Nat.le_trans Z0 Kq3.1
 refine own_go (fun tg k => st3 tg k) ?_
 show oF (T3.setTop (mkF m 12 #[oR r0] []))
 refine own_retV X3 hx hlk Bd.returns (hb hby d31_12) (Nat.le_of_ble_eq_true rfl) (Nat.le_of_ble_eq_true rfl) ?_
 refine ⟨gx3, rfl, N3, K3, ?_, ?_⟩
 · (exact A_ix_3)
 · (exact Pq3_1)
theorem d19_0 : oQ oD24 0 (.aload_n 0) 1 := by decide +kernel
theorem d19_1 : oQ oD24 1 (.getfield 20) 3 := by decide +kernel
theorem d19_4 : oQ oD24 4 (.ifCond .ne 15) 3 := by decide +kernel
theorem d19_7 : oQ oD24 7 (.aload_n 0) 1 := by decide +kernel
theorem d19_8 : oQ oD24 8 (.getfield 14) 3 := by decide +kernel
theorem d19_11 : oQ oD24 11 (.invokevirtual 47) 3 := by decide +kernel
theorem d19_14 : oQ oD24 14 (.aload_n 0) 1 := by decide +kernel
theorem d19_15 : oQ oD24 15 (.iconst 1) 1 := by decide +kernel
theorem d19_16 : oQ oD24 16 (.putfield 20) 3 := by decide +kernel
theorem d19_19 : oQ oD24 19 .return_ 1 := by decide +kernel
theorem pn_19 : plainName oC1 = true := by first | (simp [plainName, overriddenIn]; done) | decide +kernel
theorem ef_19 (m : MethodId) (r0 : Addr) : entryFrame m #[(.ref r0)] 1 = mkF m 0 #[oR r0] [] := by first | (simp [entryFrame, mkF, argsToLocals, Value.category]; done) | rfl
def rm19_room : Room := { frames := 5, cells := 0, slots := 0, locals := 93 }
def Qrm19 (Z : State) (r0 : Addr) (wd : Addr) (hd : Addr) (il : Addr) (ix : Addr) (Vv : own_V) (M : List Int32) (h0 : Heap) (n0 : Nat) (v : Option Value) (h : Heap) (L : List Loc) : Prop := ∃ gx : Nat → Int32, v = none ∧ Fr n0 L ∧ Keep h0 h [r0, ix] ∧ Exa Z h r0 oC1 ∧ Fld Z h r0 oC1 "words" "[J" (.ref wd) ∧ Fld Z h r0 oC1 "held" "[Z" (.ref hd) ∧ Fld Z h r0 oC1 "blocks" oC5 (.ref il) ∧ Fld Z h r0 oC1 "sorted" "Z" (.int 1) ∧ Exa Z h il oC3 ∧ Fld Z h il oC3 "indices" "[I" (.ref ix) ∧ Fld Z h il oC3 "size" "I" (.int Vv.k_) ∧ own_Arf Z h ix .int (16 : Int32) (fun i => .int (gx i)) ∧ own_BS M Vv.k_ gx
set_option maxRecDepth 65536 in
set_option maxHeartbeats 40000000 in
theorem rm19 (l : Launch) (Z : State) (a0 : Array Value) (hw : oH Z a0) (ws : List Jvm.Cond) (r0 : Addr) (wd : Addr) (hd : Addr) (il : Addr) (ix : Addr) (Vv : own_V) (M : List Int32) (h0 : Heap) (n0 : Nat) (Z0 : n0 ≤ h0.size) (E_r0_0 : Exa Z h0 r0 oC1) (F_words_r0_0 : Fld Z h0 r0 oC1 "words" "[J" (.ref wd)) (F_held_r0_0 : Fld Z h0 r0 oC1 "held" "[Z" (.ref hd)) (F_blocks_r0_0 : Fld Z h0 r0 oC1 "blocks" oC5 (.ref il)) (F_sorted_r0_0 : Fld Z h0 r0 oC1 "sorted" "Z" (.int Vv.s_)) (E_il_0 : Exa Z h0 il oC3) (F_indices_il_0 : Fld Z h0 il oC3 "indices" "[I" (.ref ix)) (F_size_il_0 : Fld Z h0 il oC3 "size" "I" (.int Vv.k_)) (A_ix_0 : own_Arf Z h0 ix .int (16 : Int32) (fun i => .int (Vv.f_ i))) (ge_r0 : n0 ≤ r0) (ge_ix : n0 ≤ ix) (hB : (∃ Bs, own_BL M Vv Bs)) :
    MetFree l oM24 (head1 (Jvm.Cond.code oM24 prog_49_method_5_code 1 none :: ws) rm19_room) (fun a U => a = #[(.ref r0)] ∧ Z.Warmed39 U.vm ∧ U.heap = h0) (fun _ _ _ _ _ => True) (fun _ U o U' => ∃ v L, o = .returned v ∧ Qrm19 Z r0 wd hd il ix Vv M h0 n0 v U'.heap L ∧ FrameEnd U o U' L rm19_room.cells rm19_room.slots) := by
 refine MetFree.of_bodySF (plainFor_of_name pn_19) hisR ?_
 intro p e s m args below meth c s₁ Bd hml0 hP hK
 obtain ⟨rfl, hZ, hh⟩ := hP
 have hx := Bd.exec
 have hby := Bd.bytes
 have hml : c.maxLocals = 1 := hml0
 have hown : s.vm.findClass oC1 = some m.cls := findClass_of_methodNamed Bd.named
 have hnm := (name_of_methodNamed Bd.named Bd.method).1
 have hlk : meth.locks = false := BodyLoose.notSynchronized Bd
 have X0 : Stand p l e rm19_room s m #[(.ref r0)] below meth c s₁ [] 0 0 := Stand.of_body Bd
 have e0 : s₁.heap = h0 := by rw [← hh, Bd.state]; rfl
 have N0 := Fr.nil n0
 show own_Fin p.tables e below s (Qrm19 Z r0 wd hd il ix Vv M h0 n0) rm19_room.cells rm19_room.slots (s₁.setTop (entryFrame m #[(.ref r0)] 1))
 rw [ef_19]
 show oF (s₁.setTop (mkF m 0 #[oR r0] []))
 have K0 := Keep.refl h0 [r0, ix]
 refine own_go (fun _ k => XS.aloadN X0.here hx rfl (hb hby d19_0) rfl rfl k) ?_
 obtain ⟨T1, X1, e1, st1⟩ := getF X0 hx hZ hown (host := "") (Or.inl (oW hw 54 rfl)) Via.refl e0 F_sorted_r0_0 (g := (mkF m 1 #[oR r0] [(.ref r0)])) rfl rfl (hb hby d19_1)
 refine own_go (fun tg k => st1 tg k) ?_
 by_cases hc2 : Vv.s_ = (0 : Int32)
 ·refine own_go (fun _ k => XS.ifNo X1.here hx rfl (hb hby d19_4) rfl ((if0 _ _).trans (teq hc2).2) (XS.aloadN X1.here hx rfl (hb hby d19_7) rfl rfl k)) ?_
  obtain ⟨T3, X3, e3, st3⟩ := getF X1 hx hZ hown (host := "") (Or.inl (oW hw 52 rfl)) Via.refl e1 F_blocks_r0_0 (g := (mkF m 8 #[oR r0] [(.ref r0)])) rfl rfl (hb hby d19_8)
  refine own_go (fun tg k => st3 tg k) ?_
  have cq := isOf hZ e3 E_il_0
  obtain ⟨cq4, kq4, q4a, q4b, q4c⟩ := cq
  have cq := X3.virtualBack hx (y := oM23) (z := oM23) hown (mvT hZ (oW hw 205 rfl)) (mvT hZ (oW hw 206 rfl)) (notFace_of_selects (args := #[]) (mvT hZ (oW hw 208 rfl))) (mvT hZ (oW hw 208 rfl)) (mvT hZ (oW hw 207 rfl)) (by decide) (backOf (W := 0) (rm31 l Z a0 hw [] il ix Vv.k_ Vv.f_ h0 n0 Z0 E_il_0 F_indices_il_0 F_size_il_0 A_ix_0 ge_ix (own_k23 hB hc2)) hZ (oW hw 209 rfl) (oW hw 44 rfl) (by decide) (by decide)) q4a q4c (g := (mkF m 11 #[oR r0] [(.ref il)])) rfl (by rw [hml]; rfl) (Steps.refl _) (argsL := []) (rest := []) (lenOf own_pd158 rfl) rfl (by show 2 * 0 + _ ≤ _; exact Nat.le_of_eq rfl) (hb hby d19_11) (fun _ _ => ⟨rfl, e3, (by decide : 0 + 0 ≤ _), (by decide : 0 + 0 ≤ _)⟩)
  obtain ⟨_, _, ⟨T4, L4, k4, n4⟩, -, X4, ⟨Lc4, hQ4, l4, y4, z4⟩, st4⟩ := cq
  dsimp only [Pt.U, Pt.locs, Pt.cells, Pt.slots] at X4 l4 y4 z4 st4 hQ4
  replace y4 : 0 = k4 := y4.symm
  replace z4 : 0 = n4 := z4.symm
  subst y4 z4
  obtain ⟨gx4, rfl, N4q, Kq4, A_ix_4, Pq4_1⟩ := hQ4
  have N4 : Fr n0 L4 := by rw [l4]; exact Fr.app N0 N4q
  have E_r0_4 := E_r0_0.keep Kq4
  have u4_r0 := (ninS (own_ne_arf E_r0_0 (oW hw 32 rfl) A_ix_0) nin0)
  have F_words_r0_4 := F_words_r0_0.keep Kq4 u4_r0
  have F_held_r0_4 := F_held_r0_0.keep Kq4 u4_r0
  have F_blocks_r0_4 := F_blocks_r0_0.keep Kq4 u4_r0
  have F_sorted_r0_4 := F_sorted_r0_0.keep Kq4 u4_r0
  have E_il_4 := E_il_0.keep Kq4
  have u4_il := (ninS (own_ne_arf E_il_0 (oW hw 43 rfl) A_ix_0) nin0)
  have F_indices_il_4 := F_indices_il_0.keep Kq4 u4_il
  have F_size_il_4 := F_size_il_0.keep Kq4 u4_il
  have K4 := Keep.trans K0 Kq4 (allS (Or.inl (List.mem_of_getElem? (i := 1) rfl)) all0)
  have Z4 : n0 ≤ T4.heap.size := Nat.le_trans Z0 Kq4.1
  refine own_go (fun tg k => st4.trans k) ?_
  show oF (T4.setTop (mkF m 14 #[oR r0] []))
  refine own_go (fun _ k => XS.aloadN X4.here hx rfl (hb hby d19_14) rfl rfl (XS.iconst X4.here hx rfl (hb hby d19_15) k)) ?_
  obtain ⟨T5, h5, X5, e5, W5, st5⟩ := putFN X4 hx hZ hown (oW hw 54 rfl) Via.refl rfl F_sorted_r0_4 E_r0_4 (Or.inl (oW hw 55 rfl)) (oW hw 32 rfl) (ty := .boolean) (v' := (.int 1)) (by decide) rfl (by decide) (g := (mkF m 16 #[oR r0] [(.int 1), (.ref r0)])) rfl rfl (hb hby d19_16)
  have E_r0_5 := E_r0_4.wr W5
  have F_words_r0_5 := F_words_r0_4.other W5 (Or.inr (own_sn162 hw))
  have F_held_r0_5 := F_held_r0_4.other W5 (Or.inr (own_sn163 hw))
  have F_blocks_r0_5 := F_blocks_r0_4.other W5 (Or.inr (own_sn164 hw))
  have E_il_5 := E_il_4.wr W5
  have u5_il := (ne_exa E_il_4 E_r0_4 (by decide))
  have F_indices_il_5 := F_indices_il_4.other W5 (Or.inl u5_il)
  have F_size_il_5 := F_size_il_4.other W5 (Or.inl u5_il)
  have A_ix_5 := A_ix_4.other W5 (Ne.symm (own_ne_arf E_r0_4 (oW hw 32 rfl) A_ix_4))
  have K5 := K4.wr W5 (Or.inl (List.mem_of_getElem? (i := 0) rfl))
  have N5 := Fr.snoc X5 N4 ge_r0
  have Z5 : n0 ≤ h5.size := Nat.le_trans Z4 (Keep.of_wr W5).1
  have F_sorted_r0_5 := F_sorted_r0_4.same W5
  refine own_go (fun tg k => st5 tg k) ?_
  show oF (T5.setTop (mkF m 19 #[oR r0] []))
  refine own_retV X5 hx hlk Bd.returns (hb hby d19_19) (Nat.le_of_ble_eq_true rfl) (Nat.le_of_ble_eq_true rfl) ?_
  rw [e5]
  refine ⟨gx4, rfl, N5, K5, E_r0_5, ?_, ?_, ?_, ?_, E_il_5, ?_, ?_, ?_, ?_⟩
  · first | (exact F_words_r0_5) | (simp only [if_pos hc2]; exact F_words_r0_5)
  · first | (exact F_held_r0_5) | (simp only [if_pos hc2]; exact F_held_r0_5)
  · first | (exact F_blocks_r0_5) | (simp only [if_pos hc2]; exact F_blocks_r0_5)
  · ( exact F_sorted_r0_5)
  · first | (exact F_indices_il_5) | (simp only [if_pos hc2]; exact F_indices_il_5)
  · first | (exact F_size_il_5) | (simp only [if_pos hc2]; exact F_size_il_5)
  · first | (exact A_ix_5) | (simp only [if_pos hc2]; exact A_ix_5)
  · first | (exact own_BS1 hB hc2 Pq4_1) | (simp only [if_pos hc2]; exact own_BS1 hB hc2 Pq4_1)
 ·refine own_go (fun _ k => XS.ifYes X1.here hx rfl (pc0 := 4) (pc' := 19) rfl (hb hby d19_4) rfl ((if0 _ _).trans (feq hc2).2) (by decide) (by decide) k) ?_
  show oF (T1.setTop (mkF m 19 #[oR r0] []))
  refine own_retV X1 hx hlk Bd.returns (hb hby d19_19) (Nat.le_of_ble_eq_true rfl) (Nat.le_of_ble_eq_true rfl) ?_
  rw [e1]
  refine ⟨Vv.f_, rfl, N0, K0, E_r0_0, ?_, ?_, ?_, ?_, E_il_0, ?_, ?_, ?_, ?_⟩
  · first | (exact F_words_r0_0) | (simp only [if_neg hc2]; exact F_words_r0_0)
  · first | (exact F_held_r0_0) | (simp only [if_neg hc2]; exact F_held_r0_0)
  · first | (exact F_blocks_r0_0) | (simp only [if_neg hc2]; exact F_blocks_r0_0)
  · ( rw [show (1 : Int32) = Vv.s_ from (own_s1 hB hc2).symm]; exact F_sorted_r0_0)
  · first | (exact F_indices_il_0) | (simp only [if_neg hc2]; exact F_indices_il_0)
  · first | (exact F_size_il_0) | (simp only [if_neg hc2]; exact F_size_il_0)
  · first | (exact A_ix_0) | (simp only [if_neg hc2]; exact A_ix_0)
  · first | (exact own_BS0 hB hc2) | (simp only [if_neg hc2]; exact own_BS0 hB hc2)
theorem own_pd489 : parseMethodDescriptor "(J)I" = some ⟨[.long], some .int⟩ := by decide +kernel
theorem d22_0 : oQ oD25 0 (.iload_n 1) 1 := by decide +kernel
theorem d22_1 : oQ oD25 1 (.iconst 1) 1 := by decide +kernel
theorem d22_2 : oQ oD25 2 .iadd 1 := by decide +kernel
theorem d22_3 : oQ oD25 3 (.bipush 16) 2 := by decide +kernel
theorem d22_5 : oQ oD25 5 .imul 1 := by decide +kernel
theorem d22_6 : oQ oD25 6 (.istore_n 3) 1 := by decide +kernel
theorem d22_7 : oQ oD25 7 (.iload_n 2) 1 := by decide +kernel
theorem d22_8 : oQ oD25 8 (.bipush 64) 2 := by decide +kernel
theorem d22_10 : oQ oD25 10 .idiv 1 := by decide +kernel
theorem d22_11 : oQ oD25 11 (.istore 4) 2 := by decide +kernel
theorem d22_13 : oQ oD25 13 (.iload 4) 2 := by decide +kernel
theorem d22_15 : oQ oD25 15 (.iload_n 3) 1 := by decide +kernel
theorem d22_16 : oQ oD25 16 (.if_icmp .lt 5) 3 := by decide +kernel
theorem d22_19 : oQ oD25 19 (.iconst (-1)) 1 := by decide +kernel
theorem d22_20 : oQ oD25 20 .ireturn 1 := by decide +kernel
theorem d22_21 : oQ oD25 21 (.aload_n 0) 1 := by decide +kernel
theorem d22_22 : oQ oD25 22 (.getfield 24) 3 := by decide +kernel
theorem d22_25 : oQ oD25 25 (.iload 4) 2 := by decide +kernel
theorem d22_27 : oQ oD25 27 .laload 1 := by decide +kernel
theorem d22_28 : oQ oD25 28 (.ldc2_w 57) 3 := by decide +kernel
theorem d22_31 : oQ oD25 31 (.iload_n 2) 1 := by decide +kernel
theorem d22_32 : oQ oD25 32 .lshl 1 := by decide +kernel
theorem d22_33 : oQ oD25 33 .land 1 := by decide +kernel
theorem d22_34 : oQ oD25 34 (.lstore 5) 2 := by decide +kernel
theorem d22_36 : oQ oD25 36 (.lload 5) 2 := by decide +kernel
theorem d22_38 : oQ oD25 38 (.lconst 0) 1 := by decide +kernel
theorem d22_39 : oQ oD25 39 .lcmp 1 := by decide +kernel
theorem d22_40 : oQ oD25 40 (.ifCond .ne 26) 3 := by decide +kernel
theorem d22_43 : oQ oD25 43 (.iinc 4 1) 3 := by decide +kernel
theorem d22_46 : oQ oD25 46 (.iload 4) 2 := by decide +kernel
theorem d22_48 : oQ oD25 48 (.iload_n 3) 1 := by decide +kernel
theorem d22_49 : oQ oD25 49 (.if_icmp .ne 5) 3 := by decide +kernel
theorem d22_52 : oQ oD25 52 (.iconst (-1)) 1 := by decide +kernel
theorem d22_53 : oQ oD25 53 .ireturn 1 := by decide +kernel
theorem d22_54 : oQ oD25 54 (.aload_n 0) 1 := by decide +kernel
theorem d22_55 : oQ oD25 55 (.getfield 24) 3 := by decide +kernel
theorem d22_58 : oQ oD25 58 (.iload 4) 2 := by decide +kernel
theorem d22_60 : oQ oD25 60 .laload 1 := by decide +kernel
theorem d22_61 : oQ oD25 61 (.lstore 5) 2 := by decide +kernel
theorem d22_63 : oQ oD25 63 (.goto (-27)) 3 := by decide +kernel
theorem d22_66 : oQ oD25 66 (.iload 4) 2 := by decide +kernel
theorem d22_68 : oQ oD25 68 (.bipush 64) 2 := by decide +kernel
theorem d22_70 : oQ oD25 70 .imul 1 := by decide +kernel
theorem d22_71 : oQ oD25 71 (.lload 5) 2 := by decide +kernel
theorem d22_73 : oQ oD25 73 (.invokestatic 59) 3 := by decide +kernel
theorem d22_76 : oQ oD25 76 .iadd 1 := by decide +kernel
theorem d22_77 : oQ oD25 77 .ireturn 1 := by decide +kernel
theorem pn_22 : plainName oC1 = true := by first | (simp [plainName, overriddenIn]; done) | decide +kernel
theorem ef_22 (m : MethodId) (r0 : Addr) (p1 : Int32) (p2 : Int32) : entryFrame m #[(.ref r0), (.int p1), (.int p2)] 7 = mkF m 0 #[oR r0, oI p1, oI p2, oU, oU, oU, oU] [] := by first | (simp [entryFrame, mkF, argsToLocals, Value.category]; done) | rfl
def rm22_room : Room := { frames := 2, cells := 0, slots := 0, locals := 29 }
def Qrm22 (Z : State) (r0 : Addr) (p1 : Int32) (p2 : Int32) (wd : Addr) (nb : Int32) (W : Nat → Int64) (M : List Int32) (h0 : Heap) (n0 : Nat) (v : Option Value) (h : Heap) (L : List Loc) : Prop := ∃ rx : Int32, v = some (.int rx) ∧ Fr n0 L ∧ h = h0 ∧ own_nR M p1 p2 rx
set_option maxRecDepth 65536 in
set_option maxHeartbeats 40000000 in
theorem rm22 (l : Launch) (Z : State) (a0 : Array Value) (hw : oH Z a0) (ws : List Jvm.Cond) (r0 : Addr) (p1 : Int32) (p2 : Int32) (wd : Addr) (nb : Int32) (W : Nat → Int64) (M : List Int32) (h0 : Heap) (n0 : Nat) (Z0 : n0 ≤ h0.size) (F_words_r0_0 : Fld Z h0 r0 oC1 "words" "[J" (.ref wd)) (A_wd_0 : own_Arf Z h0 wd .long (nb * (16 : Int32)) (fun i => .long (W i))) (hp : own_np M W nb p1 p2) :
    MetFree l oM25 (head1 (Jvm.Cond.code oM25 prog_49_method_8_code 7 (some .int) :: ws) rm22_room) (fun a U => a = #[(.ref r0), (.int p1), (.int p2)] ∧ Z.Warmed39 U.vm ∧ U.heap = h0) (fun _ _ _ _ _ => True) (fun _ U o U' => ∃ v L, o = .returned v ∧ Qrm22 Z r0 p1 p2 wd nb W M h0 n0 v U'.heap L ∧ FrameEnd U o U' L rm22_room.cells rm22_room.slots) := by
 refine MetFree.of_bodySF (plainFor_of_name pn_22) hisR ?_
 intro p e s m args below meth c s₁ Bd hml0 hP hK
 obtain ⟨rfl, hZ, hh⟩ := hP
 have hx := Bd.exec
 have hby := Bd.bytes
 have hml : c.maxLocals = 7 := hml0
 have hown : s.vm.findClass oC1 = some m.cls := findClass_of_methodNamed Bd.named
 have hnm := (name_of_methodNamed Bd.named Bd.method).1
 have hlk : meth.locks = false := BodyLoose.notSynchronized Bd
 have X0 : Stand p l e rm22_room s m #[(.ref r0), (.int p1), (.int p2)] below meth c s₁ [] 0 0 := Stand.of_body Bd
 have e0 : s₁.heap = h0 := by rw [← hh, Bd.state]; rfl
 have N0 := Fr.nil n0
 show own_Fin p.tables e below s (Qrm22 Z r0 p1 p2 wd nb W M h0 n0) rm22_room.cells rm22_room.slots (s₁.setTop (entryFrame m #[(.ref r0), (.int p1), (.int p2)] 7))
 rw [ef_22]
 show oF (s₁.setTop (mkF m 0 #[oR r0, oI p1, oI p2, oU, oU, oU, oU] []))
 refine own_go (fun _ k => XS.iloadN X0.here hx rfl (hb hby d22_0) rfl (XS.iconst X0.here hx rfl (hb hby d22_1) (XS.iadd X0.here hx rfl (hb hby d22_2) rfl (XS.bipush X0.here hx rfl (hb hby d22_3) (XS.imul X0.here hx rfl (hb hby d22_5) rfl (XS.istoreN X0.here hx rfl (hb hby d22_6) rfl (l' := #[oR r0, oI p1, oI p2, .val (.int ((p1 + (1 : Int32)) * (16 : Int32))), oU, oU, oU]) rfl (XS.iloadN X0.here hx rfl (hb hby d22_7) rfl (XS.bipush X0.here hx rfl (hb hby d22_8) (XS.idiv X0.here hx rfl (hb hby d22_10) rfl (by decide) (XS.istore X0.here hx rfl (hb hby d22_11) rfl (l' := #[oR r0, oI p1, oI p2, .val (.int ((p1 + (1 : Int32)) * (16 : Int32))), .val (.int (p2 / (64 : Int32))), oU, oU]) rfl (XS.iload X0.here hx rfl (hb hby d22_13) rfl (XS.iloadN X0.here hx rfl (hb hby d22_15) rfl k)))))))))))) ?_
 by_cases hc1 : (p2 / (64 : Int32)) < ((p1 + (1 : Int32)) * (16 : Int32))
 ·refine own_go (fun _ k => XS.icmpYes X0.here hx rfl (pc0 := 16) (pc' := 21) rfl (hb hby d22_16) rfl (tlt hc1).1 (by decide) (by decide) (XS.aloadN X0.here hx rfl (hb hby d22_21) rfl rfl k)) ?_
  have cq := getF X0 hx hZ hown (host := "") (Or.inl (oW hw 57 rfl)) Via.refl e0 F_words_r0_0 (g := (mkF m 22 #[oR r0, oI p1, oI p2, .val (.int ((p1 + (1 : Int32)) * (16 : Int32))), .val (.int (p2 / (64 : Int32))), oU, oU] [(.ref r0)])) rfl rfl (hb hby d22_22)
  obtain ⟨T2, X2, e2, st2⟩ := cq
  refine own_go (fun tg k => st2 tg k) ?_
  refine own_go (fun _ k => XS.iload X2.here hx rfl (hb hby d22_25) rfl k) ?_
  refine own_go (fun tg k => own_laload X2 hx hZ e2 A_wd_0 (j := (p2 / (64 : Int32))) (own_nPi hp hc1) (x := (W (p2 / (64 : Int32)).toNatClampNeg)) rfl (g := (mkF m 27 #[oR r0, oI p1, oI p2, .val (.int ((p1 + (1 : Int32)) * (16 : Int32))), .val (.int (p2 / (64 : Int32))), oU, oU] [(.int (p2 / (64 : Int32))), (.ref wd)])) rfl rfl (hb hby d22_27) tg k) ?_
  refine own_go (fun _ k => X2.ldc2Long hx hown (mvT hZ (oW hw 170 rfl)) (g := (mkF m 28 #[oR r0, oI p1, oI p2, .val (.int ((p1 + (1 : Int32)) * (16 : Int32))), .val (.int (p2 / (64 : Int32))), oU, oU] [(.long (W (p2 / (64 : Int32)).toNatClampNeg))])) rfl (hb hby d22_28) _ k) ?_
  refine own_go (fun _ k => XS.iloadN X2.here hx rfl (hb hby d22_31) rfl (XS.lshl X2.here hx rfl (hb hby d22_32) rfl k)) ?_
  show oF (T2.setTop (mkF m 33 #[oR r0, oI p1, oI p2, .val (.int ((p1 + (1 : Int32)) * (16 : Int32))), .val (.int (p2 / (64 : Int32))), oU, oU] [(.long (own_lshl (-1 : Int64) p2)), (.long (W (p2 / (64 : Int32)).toNatClampNeg))]))
  refine own_go (fun _ k => XS.land X2.here hx rfl (hb hby d22_33) rfl (XS.lstore X2.here hx rfl (hb hby d22_34) rfl (l' := #[oR r0, oI p1, oI p2, .val (.int ((p1 + (1 : Int32)) * (16 : Int32))), .val (.int (p2 / (64 : Int32))), .val (.long ((W (p2 / (64 : Int32)).toNatClampNeg) &&& (own_lshl (-1 : Int64) p2))), oS]) rfl k)) ?_
  show oF (T2.setTop (mkF m 36 #[oR r0, oI p1, oI p2, .val (.int ((p1 + (1 : Int32)) * (16 : Int32))), .val (.int (p2 / (64 : Int32))), .val (.long ((W (p2 / (64 : Int32)).toNatClampNeg) &&& (own_lshl (-1 : Int64) p2))), oS] []))
  have loopA : ∀ (kA : Nat) (wi : Int32) (bt : Int64) (TAL : State) (LAL : List Loc), kA = (64 - wi.toInt).toNat → own_nK M W nb p1 p2 wi bt → Stand p l e rm22_room s m #[(.ref r0), (.int p1), (.int p2)] below meth c TAL LAL 0 0 → Fr n0 LAL → TAL.heap = h0 → own_Fin p.tables e below s (Qrm22 Z r0 p1 p2 wd nb W M h0 n0) rm22_room.cells rm22_room.slots (TAL.setTop (mkF m 36 #[oR r0, oI p1, oI p2, .val (.int ((p1 + (1 : Int32)) * (16 : Int32))), oI wi, oJ bt, oS] [])) := by
   intro kA
   induction kA using Nat.strongRecOn with
   | _ kA ihA =>
    intro wi bt TAL LAL hkA hI XAL NAL eAL
    show oF (TAL.setTop (mkF m 36 #[oR r0, oI p1, oI p2, .val (.int ((p1 + (1 : Int32)) * (16 : Int32))), oI wi, oJ bt, oS] []))
    refine own_go (fun _ k => XS.lload XAL.here hx rfl (hb hby d22_36) rfl (XS.lconst XAL.here hx rfl (hb hby d22_38) (XS.lcmp XAL.here hx rfl (hb hby d22_39) rfl k))) ?_
    show oF (TAL.setTop (mkF m 40 #[oR r0, oI p1, oI p2, .val (.int ((p1 + (1 : Int32)) * (16 : Int32))), oI wi, oJ bt, oS] [(.int (lcmpW bt (0 : Int64)))]))
    by_cases hc3 : bt = (0 : Int64)
    ·refine own_go (fun _ k => XS.ifNo XAL.here hx rfl (hb hby d22_40) rfl ((if0 _ _).trans (teq ((lw_eq _ _).mpr hc3)).2) (XS.iinc XAL.here hx rfl (hb hby d22_43) rfl (l' := #[oR r0, oI p1, oI p2, .val (.int ((p1 + (1 : Int32)) * (16 : Int32))), .val (.int (wi + (1 : Int32))), oJ bt, oS]) rfl (XS.iload XAL.here hx rfl (hb hby d22_46) rfl (XS.iloadN XAL.here hx rfl (hb hby d22_48) rfl k)))) ?_
     by_cases hc4 : (wi + (1 : Int32)) = ((p1 + (1 : Int32)) * (16 : Int32))
     ·refine own_go (fun _ k => XS.icmpNo XAL.here hx rfl (hb hby d22_49) rfl (teq hc4).2 (XS.iconst XAL.here hx rfl (hb hby d22_52) k)) ?_
      refine own_ret XAL hx hlk Bd.returns rfl (Or.inl ⟨rfl, by simp, _, rfl⟩) (hb hby d22_53) (Nat.le_of_ble_eq_true rfl) (Nat.le_of_ble_eq_true rfl) ?_
      refine ⟨(-1 : Int32), ?_, NAL, eAL, ?_⟩
      · rfl
      · first | (exact own_nKx hI hc3 hc4) | (simp only [if_pos hc1, if_pos hc3, if_pos hc4]; exact own_nKx hI hc3 hc4)
     ·refine own_go (fun _ k => XS.icmpYes XAL.here hx rfl (pc0 := 49) (pc' := 54) rfl (hb hby d22_49) rfl (feq hc4).2 (by decide) (by decide) (XS.aloadN XAL.here hx rfl (hb hby d22_54) rfl rfl k)) ?_
      have cq := getF XAL hx hZ hown (host := "") (Or.inl (oW hw 57 rfl)) Via.refl eAL F_words_r0_0 (g := (mkF m 55 #[oR r0, oI p1, oI p2, .val (.int ((p1 + (1 : Int32)) * (16 : Int32))), .val (.int (wi + (1 : Int32))), oJ bt, oS] [(.ref r0)])) rfl rfl (hb hby d22_55)
      obtain ⟨T5, X5, e5, st5⟩ := cq
      refine own_go (fun tg k => st5 tg k) ?_
      refine own_go (fun _ k => XS.iload X5.here hx rfl (hb hby d22_58) rfl k) ?_
      refine own_go (fun tg k => own_laload X5 hx hZ e5 A_wd_0 (j := (wi + (1 : Int32))) (own_nKb hI hc3 hc4).2.2 (x := (W (wi + (1 : Int32)).toNatClampNeg)) rfl (g := (mkF m 60 #[oR r0, oI p1, oI p2, .val (.int ((p1 + (1 : Int32)) * (16 : Int32))), .val (.int (wi + (1 : Int32))), oJ bt, oS] [(.int (wi + (1 : Int32))), (.ref wd)])) rfl rfl (hb hby d22_60) tg k) ?_
      refine own_go (fun _ k => XS.lstore X5.here hx rfl (hb hby d22_61) rfl (l' := #[oR r0, oI p1, oI p2, .val (.int ((p1 + (1 : Int32)) * (16 : Int32))), .val (.int (wi + (1 : Int32))), .val (.long (W (wi + (1 : Int32)).toNatClampNeg)), oS]) rfl (XS.goto X5.here hx rfl (pc0 := 63) (pc' := 36) rfl (hb hby d22_63) (by decide) (by decide) k)) ?_
      show oF (T5.setTop (mkF m 36 #[oR r0, oI p1, oI p2, .val (.int ((p1 + (1 : Int32)) * (16 : Int32))), .val (.int (wi + (1 : Int32))), .val (.long (W (wi + (1 : Int32)).toNatClampNeg)), oS] []))
      exact ihA _ (Nat.lt_of_lt_of_eq (own_nKb hI hc3 hc4).2.1 hkA.symm) ((wi + (1 : Int32))) ((W (wi + (1 : Int32)).toNatClampNeg)) T5 _ rfl (own_nKb hI hc3 hc4).1 (own_mono X5 (by decide) (by decide)) NAL e5
    ·refine own_go (fun _ k => XS.ifYes XAL.here hx rfl (pc0 := 40) (pc' := 66) rfl (hb hby d22_40) rfl ((if0 _ _).trans (feq (mt (lw_eq _ _).mp hc3)).2) (by decide) (by decide) (XS.iload XAL.here hx rfl (hb hby d22_66) rfl (XS.bipush XAL.here hx rfl (hb hby d22_68) (XS.imul XAL.here hx rfl (hb hby d22_70) rfl (XS.lload XAL.here hx rfl (hb hby d22_71) rfl k))))) ?_
     have cq := Jvm.LawKit.callS XAL hx (y := oM4) hown (mvT hZ (oW hw 171 rfl)) (mvT hZ (oW hw 172 rfl)) (mvT hZ (oW hw 173 rfl)) (mvT hZ (oW hw 174 rfl)) (by decide) (backOf (W := 1) (rm23 l Z a0 hw [] bt h0 n0 Z0) hZ (oW hw 174 rfl) (oW hw 173 rfl) (by decide) (by decide)) (g := (mkF m 73 #[oR r0, oI p1, oI p2, .val (.int ((p1 + (1 : Int32)) * (16 : Int32))), oI wi, oJ bt, oS] [(.long bt), (.int (wi * (64 : Int32)))])) rfl (by rw [hml]; rfl) (argsL := [(.long bt)]) (rest := [(.int (wi * (64 : Int32)))]) (lenOf own_pd489 rfl) rfl (by show 2 * 0 + _ ≤ _; exact Nat.le_of_eq rfl) (hb hby d22_73) (fun _ _ => ⟨rfl, eAL, (by decide : 0 + 0 ≤ _), (by decide : 0 + 0 ≤ _)⟩)
     obtain ⟨_, _, ⟨T6, L6, k6, n6⟩, -, X6, ⟨Lc6, hQ6, l6, y6, z6⟩, st6⟩ := cq
     dsimp only [Pt.U, Pt.locs, Pt.cells, Pt.slots] at X6 l6 y6 z6 st6 hQ6
     replace y6 : 0 = k6 := y6.symm
     replace z6 : 0 = n6 := z6.symm
     subst y6 z6
     obtain ⟨rfl, N6q, e6⟩ := hQ6
     have N6 : Fr n0 L6 := by rw [l6]; exact Fr.app NAL N6q
     refine own_go (fun tg k => st6 tg k) ?_
     show oF (T6.setTop (mkF m 76 #[oR r0, oI p1, oI p2, .val (.int ((p1 + (1 : Int32)) * (16 : Int32))), oI wi, oJ bt, oS] [(.int (own_f23 bt)), (.int (wi * (64 : Int32)))]))
     refine own_go (fun _ k => XS.iadd X6.here hx rfl (hb hby d22_76) rfl k) ?_
     refine own_ret X6 hx hlk Bd.returns rfl (Or.inl ⟨rfl, by simp, _, rfl⟩) (hb hby d22_77) (Nat.le_of_ble_eq_true rfl) (Nat.le_of_ble_eq_true rfl) ?_
     refine ⟨((wi * (64 : Int32)) + (own_f23 bt)), ?_, N6, e6, ?_⟩
     · rfl
     · (rw [own_ntz]; exact own_nKv hI hc3)
  exact loopA _ ((p2 / (64 : Int32))) (((W (p2 / (64 : Int32)).toNatClampNeg) &&& (own_lshl (-1 : Int64) p2))) T2 _ rfl (own_nK0 hp hc1) (own_mono X2 (by decide) (by decide)) N0 e2
 ·refine own_go (fun _ k => XS.icmpNo X0.here hx rfl (hb hby d22_16) rfl (flt hc1).1 (XS.iconst X0.here hx rfl (hb hby d22_19) k)) ?_
  refine own_ret X0 hx hlk Bd.returns rfl (Or.inl ⟨rfl, by simp, _, rfl⟩) (hb hby d22_20) (Nat.le_of_ble_eq_true rfl) (Nat.le_of_ble_eq_true rfl) ?_
  refine ⟨(-1 : Int32), ?_, N0, e0, ?_⟩
  · rfl
  · first | (exact own_nPx hp hc1) | (simp only [if_neg hc1]; exact own_nPx hp hc1)
theorem own_sn539 {Z : State} {a0 : Array Value} (hw : oH Z a0) : oO Z oC2 "size" "I" ≠ oO Z oC2 "this$0" oC8 := slot_ne (Or.inl (oW hw 97 rfl)) (Or.inr (oW hw 82 rfl)) (by decide) (t := .int) (t' := (.object oC0)) (by decide) (by decide)
theorem own_sn540 {Z : State} {a0 : Array Value} (hw : oH Z a0) : oO Z oC2 "senders" "[I" ≠ oO Z oC2 "this$0" oC8 := slot_ne (Or.inl (oW hw 85 rfl)) (Or.inr (oW hw 82 rfl)) (by decide) (t := (.array .int)) (t' := (.object oC0)) (by decide) (by decide)
theorem own_sn541 {Z : State} {a0 : Array Value} (hw : oH Z a0) : oO Z oC2 "receivers" "[I" ≠ oO Z oC2 "this$0" oC8 := slot_ne (Or.inl (oW hw 87 rfl)) (Or.inr (oW hw 82 rfl)) (by decide) (t := (.array .int)) (t' := (.object oC0)) (by decide) (by decide)
theorem own_sn542 {Z : State} {a0 : Array Value} (hw : oH Z a0) : oO Z oC2 "messages" "[J" ≠ oO Z oC2 "this$0" oC8 := slot_ne (Or.inl (oW hw 89 rfl)) (Or.inr (oW hw 82 rfl)) (by decide) (t := (.array .long)) (t' := (.object oC0)) (by decide) (by decide)
theorem own_sn543 {Z : State} {a0 : Array Value} (hw : oH Z a0) : oO Z oC2 "size" "I" ≠ oO Z oC2 "senders" "[I" := slot_ne (Or.inl (oW hw 97 rfl)) (Or.inl (oW hw 85 rfl)) (by decide) (t := .int) (t' := (.array .int)) (by decide) (by decide)
theorem own_sn544 {Z : State} {a0 : Array Value} (hw : oH Z a0) : oO Z oC2 "receivers" "[I" ≠ oO Z oC2 "senders" "[I" := slot_ne (Or.inl (oW hw 87 rfl)) (Or.inl (oW hw 85 rfl)) (by decide) (t := (.array .int)) (t' := (.array .int)) (by decide) (by decide)
theorem own_sn545 {Z : State} {a0 : Array Value} (hw : oH Z a0) : oO Z oC2 "messages" "[J" ≠ oO Z oC2 "senders" "[I" := slot_ne (Or.inl (oW hw 89 rfl)) (Or.inl (oW hw 85 rfl)) (by decide) (t := (.array .long)) (t' := (.array .int)) (by decide) (by decide)
theorem own_sn546 {Z : State} {a0 : Array Value} (hw : oH Z a0) : oO Z oC2 "this$0" oC8 ≠ oO Z oC2 "senders" "[I" := slot_ne (Or.inr (oW hw 82 rfl)) (Or.inl (oW hw 85 rfl)) (by decide) (t := (.object oC0)) (t' := (.array .int)) (by decide) (by decide)
theorem own_sn547 {Z : State} {a0 : Array Value} (hw : oH Z a0) : oO Z oC2 "size" "I" ≠ oO Z oC2 "receivers" "[I" := slot_ne (Or.inl (oW hw 97 rfl)) (Or.inl (oW hw 87 rfl)) (by decide) (t := .int) (t' := (.array .int)) (by decide) (by decide)
theorem own_sn548 {Z : State} {a0 : Array Value} (hw : oH Z a0) : oO Z oC2 "senders" "[I" ≠ oO Z oC2 "receivers" "[I" := slot_ne (Or.inl (oW hw 85 rfl)) (Or.inl (oW hw 87 rfl)) (by decide) (t := (.array .int)) (t' := (.array .int)) (by decide) (by decide)
theorem own_sn549 {Z : State} {a0 : Array Value} (hw : oH Z a0) : oO Z oC2 "messages" "[J" ≠ oO Z oC2 "receivers" "[I" := slot_ne (Or.inl (oW hw 89 rfl)) (Or.inl (oW hw 87 rfl)) (by decide) (t := (.array .long)) (t' := (.array .int)) (by decide) (by decide)
theorem own_sn550 {Z : State} {a0 : Array Value} (hw : oH Z a0) : oO Z oC2 "this$0" oC8 ≠ oO Z oC2 "receivers" "[I" := slot_ne (Or.inr (oW hw 82 rfl)) (Or.inl (oW hw 87 rfl)) (by decide) (t := (.object oC0)) (t' := (.array .int)) (by decide) (by decide)
theorem own_sn551 {Z : State} {a0 : Array Value} (hw : oH Z a0) : oO Z oC2 "size" "I" ≠ oO Z oC2 "messages" "[J" := slot_ne (Or.inl (oW hw 97 rfl)) (Or.inl (oW hw 89 rfl)) (by decide) (t := .int) (t' := (.array .long)) (by decide) (by decide)
theorem own_sn552 {Z : State} {a0 : Array Value} (hw : oH Z a0) : oO Z oC2 "senders" "[I" ≠ oO Z oC2 "messages" "[J" := slot_ne (Or.inl (oW hw 85 rfl)) (Or.inl (oW hw 89 rfl)) (by decide) (t := (.array .int)) (t' := (.array .long)) (by decide) (by decide)
theorem own_sn553 {Z : State} {a0 : Array Value} (hw : oH Z a0) : oO Z oC2 "receivers" "[I" ≠ oO Z oC2 "messages" "[J" := slot_ne (Or.inl (oW hw 87 rfl)) (Or.inl (oW hw 89 rfl)) (by decide) (t := (.array .int)) (t' := (.array .long)) (by decide) (by decide)
theorem own_sn554 {Z : State} {a0 : Array Value} (hw : oH Z a0) : oO Z oC2 "this$0" oC8 ≠ oO Z oC2 "messages" "[J" := slot_ne (Or.inr (oW hw 82 rfl)) (Or.inl (oW hw 89 rfl)) (by decide) (t := (.object oC0)) (t' := (.array .long)) (by decide) (by decide)
theorem d9_0 : oQ oD26 0 (.aload_n 0) 1 := by decide +kernel
theorem d9_1 : oQ oD26 1 (.aload_n 1) 1 := by decide +kernel
theorem d9_2 : oQ oD26 2 (.putfield 3) 3 := by decide +kernel
theorem d9_5 : oQ oD26 5 (.aload_n 0) 1 := by decide +kernel
theorem d9_6 : oQ oD26 6 (.invokespecial 9) 3 := by decide +kernel
theorem d9_9 : oQ oD26 9 (.aload_n 0) 1 := by decide +kernel
theorem d9_10 : oQ oD26 10 (.bipush 16) 2 := by decide +kernel
theorem d9_12 : oQ oD26 12 (.newarray .int) 2 := by decide +kernel
theorem d9_14 : oQ oD26 14 (.putfield 15) 3 := by decide +kernel
theorem d9_17 : oQ oD26 17 (.aload_n 0) 1 := by decide +kernel
theorem d9_18 : oQ oD26 18 (.bipush 16) 2 := by decide +kernel
theorem d9_20 : oQ oD26 20 (.newarray .int) 2 := by decide +kernel
theorem d9_22 : oQ oD26 22 (.putfield 19) 3 := by decide +kernel
theorem d9_25 : oQ oD26 25 (.aload_n 0) 1 := by decide +kernel
theorem d9_26 : oQ oD26 26 (.bipush 16) 2 := by decide +kernel
theorem d9_28 : oQ oD26 28 (.newarray .long) 2 := by decide +kernel
theorem d9_30 : oQ oD26 30 (.putfield 22) 3 := by decide +kernel
theorem d9_33 : oQ oD26 33 .return_ 1 := by decide +kernel
theorem pn_9 : plainName oC2 = true := by first | (simp [plainName, overriddenIn]; done) | decide +kernel
theorem ef_9 (m : MethodId) (r0 : Addr) (r1 : Addr) : entryFrame m #[(.ref r0), (.ref r1)] 2 = mkF m 0 #[oR r0, oR r1] [] := by first | (simp [entryFrame, mkF, argsToLocals, Value.category]; done) | rfl
def rm9_room : Room := { frames := 1, cells := 3, slots := 48, locals := 12 }
def Qrm9 (Z : State) (r0 : Addr) (r1 : Addr) (h0 : Heap) (n0 : Nat) (v : Option Value) (h : Heap) (L : List Loc) : Prop := ∃ b1 : Addr, ∃ b2 : Addr, ∃ b3 : Addr, v = none ∧ Fr n0 L ∧ Keep h0 h [r0] ∧ h0.size ≤ b1 ∧ h0.size ≤ b2 ∧ h0.size ≤ b3 ∧ Exa Z h r0 oC2 ∧ Fld Z h r0 oC2 "size" "I" (.int 0) ∧ Fld Z h r0 oC2 "senders" "[I" (.ref b1) ∧ Fld Z h r0 oC2 "receivers" "[I" (.ref b2) ∧ Fld Z h r0 oC2 "messages" "[J" (.ref b3) ∧ own_Arf Z h b1 .int (16 : Int32) (fun i => .int ((fun _ => (0 : Int32)) i)) ∧ own_Arf Z h b2 .int (16 : Int32) (fun i => .int ((fun _ => (0 : Int32)) i)) ∧ own_Arf Z h b3 .long (16 : Int32) (fun i => .long ((fun _ => (0 : Int64)) i)) ∧ b1 ≠ b2
set_option maxRecDepth 65536 in
set_option maxHeartbeats 40000000 in
theorem rm9 (l : Launch) (Z : State) (a0 : Array Value) (hw : oH Z a0) (ws : List Jvm.Cond) (r0 : Addr) (r1 : Addr) (h0 : Heap) (n0 : Nat) (Z0 : n0 ≤ h0.size) (E_r0_0 : Exa Z h0 r0 oC2) (F_size_r0_0 : Fld Z h0 r0 oC2 "size" "I" (.int 0)) (F_senders_r0_0 : Fld Z h0 r0 oC2 "senders" "[I" .null) (F_receivers_r0_0 : Fld Z h0 r0 oC2 "receivers" "[I" .null) (F_messages_r0_0 : Fld Z h0 r0 oC2 "messages" "[J" .null) (F_this_0_r0_0 : Fld Z h0 r0 oC2 "this$0" oC8 .null) (ge_r0 : n0 ≤ r0) :
    MetFree l oM26 (head1 (Jvm.Cond.code oM26 prog_19_method_1_code 2 none :: ws) rm9_room) (fun a U => a = #[(.ref r0), (.ref r1)] ∧ Z.Warmed39 U.vm ∧ U.heap = h0) (fun _ _ _ _ _ => True) (fun _ U o U' => ∃ v L, o = .returned v ∧ Qrm9 Z r0 r1 h0 n0 v U'.heap L ∧ FrameEnd U o U' L rm9_room.cells rm9_room.slots) := by
 refine MetFree.of_bodySF (plainFor_of_name pn_9) hisR ?_
 intro p e s m args below meth c s₁ Bd hml0 hP hK
 obtain ⟨rfl, hZ, hh⟩ := hP
 have hx := Bd.exec
 have hby := Bd.bytes
 have hml : c.maxLocals = 2 := hml0
 have hown : s.vm.findClass oC2 = some m.cls := findClass_of_methodNamed Bd.named
 have hnm := (name_of_methodNamed Bd.named Bd.method).1
 have hlk : meth.locks = false := BodyLoose.notSynchronized Bd
 have X0 : Stand p l e rm9_room s m #[(.ref r0), (.ref r1)] below meth c s₁ [] 0 0 := Stand.of_body Bd
 have e0 : s₁.heap = h0 := by rw [← hh, Bd.state]; rfl
 have N0 := Fr.nil n0
 show own_Fin p.tables e below s (Qrm9 Z r0 r1 h0 n0) rm9_room.cells rm9_room.slots (s₁.setTop (entryFrame m #[(.ref r0), (.ref r1)] 2))
 rw [ef_9]
 show oF (s₁.setTop (mkF m 0 #[oR r0, oR r1] []))
 have K0 := Keep.refl h0 [r0]
 refine own_go (fun _ k => XS.aloadN X0.here hx rfl (hb hby d9_0) rfl rfl (XS.aloadN X0.here hx rfl (hb hby d9_1) rfl rfl k)) ?_
 obtain ⟨T1, h1, X1, e1, W1, st1⟩ := putF X0 hx hZ hown (host := "") (Or.inl (oW hw 81 rfl)) Via.refl e0 F_this_0_r0_0 E_r0_0 (Or.inr ⟨(oW hw 82 rfl), rfl, hnm⟩) (oW hw 76 rfl) (ty := (.object oC0)) (by decide) rfl rfl (g := (mkF m 2 #[oR r0, oR r1] [(.ref r1), (.ref r0)])) rfl rfl (hb hby d9_2)
 have E_r0_1 := E_r0_0.wr W1
 have F_size_r0_1 := F_size_r0_0.other W1 (Or.inr (own_sn539 hw))
 have F_senders_r0_1 := F_senders_r0_0.other W1 (Or.inr (own_sn540 hw))
 have F_receivers_r0_1 := F_receivers_r0_0.other W1 (Or.inr (own_sn541 hw))
 have F_messages_r0_1 := F_messages_r0_0.other W1 (Or.inr (own_sn542 hw))
 have K1 := K0.wr W1 (Or.inl (List.mem_of_getElem? (i := 0) rfl))
 have N1 := Fr.snoc X1 N0 ge_r0
 have Z1 : n0 ≤ h1.size := Nat.le_trans Z0 (Keep.of_wr W1).1
 have F_this_0_r0_1 := F_this_0_r0_0.same W1
 refine own_go (fun tg k => st1 tg k) ?_
 refine own_go (fun _ k => XS.aloadN X1.here hx rfl (hb hby d9_5) rfl rfl k) ?_
 obtain ⟨T2, X2, e2, st2⟩ := initO X1 hx hZ hown (oW hw 83 rfl) (oW hw 21 rfl) (oW hw 22 rfl) e1 (g := (mkF m 6 #[oR r0, oR r1] [(.ref r0)])) rfl (by rw [hml]; rfl) rfl (hb hby d9_6) (by decide) (W := 0) (by show 2 * 0 + _ ≤ _; exact Nat.le_of_eq rfl) (by decide)
 refine own_go (fun tg k => st2 tg k) ?_
 show oF (T2.setTop (mkF m 9 #[oR r0, oR r1] []))
 refine own_go (fun _ k => XS.aloadN X2.here hx rfl (hb hby d9_9) rfl rfl (XS.bipush X2.here hx rfl (hb hby d9_10) k)) ?_
 obtain ⟨T3, h3, k3, X3, e3, E3, A3, st3⟩ := newP X2 hx hZ (oW hw 49 rfl) e2 (g := (mkF m 12 #[oR r0, oR r1] [(.int 16), (.ref r0)])) rfl (hb hby d9_12) rfl (by decide) (cap := 16) (by decide) (by decide) (by decide) (by decide)
 obtain ⟨b3, g3⟩ : ∃ z, z = h1.size := ⟨_, rfl⟩
 rw [← g3] at A3 st3
 have ne_r0_b3 : r0 ≠ b3 := Nat.ne_of_lt (Nat.lt_of_lt_of_le E_r0_1.lt (Nat.le_of_eq g3.symm))
 have ge_b3 : n0 ≤ b3 := Nat.le_trans Z1 (Nat.le_of_eq g3.symm)
 have sz_b3 : h0.size ≤ b3 := Nat.le_trans K1.1 (Nat.le_of_eq g3.symm)
 have E_r0_3 := E_r0_1.ext E3
 have F_size_r0_3 := F_size_r0_1.ext E3
 have F_senders_r0_3 := F_senders_r0_1.ext E3
 have F_receivers_r0_3 := F_receivers_r0_1.ext E3
 have F_messages_r0_3 := F_messages_r0_1.ext E3
 have F_this_0_r0_3 := F_this_0_r0_1.ext E3
 have K3 := K1.ext E3
 have Z3 : n0 ≤ h3.size := Nat.le_trans Z1 E3.1
 have A_b3_3 : own_Arf Z h3 b3 .int (16 : Int32) (fun i => .int ((fun _ => (0 : Int32)) i)) := own_Arf.new A3 (by decide)
 refine own_go (fun tg k => st3 tg k) ?_
 obtain ⟨T4, h4, X4, e4, W4, st4⟩ := putF X3 hx hZ hown (host := "") (Or.inl (oW hw 84 rfl)) Via.refl e3 F_senders_r0_3 E_r0_3 (Or.inl (oW hw 85 rfl)) (oW hw 76 rfl) (ty := (.array .int)) (by decide) rfl rfl (g := (mkF m 14 #[oR r0, oR r1] [(.ref b3), (.ref r0)])) rfl rfl (hb hby d9_14)
 have E_r0_4 := E_r0_3.wr W4
 have F_size_r0_4 := F_size_r0_3.other W4 (Or.inr (own_sn543 hw))
 have F_receivers_r0_4 := F_receivers_r0_3.other W4 (Or.inr (own_sn544 hw))
 have F_messages_r0_4 := F_messages_r0_3.other W4 (Or.inr (own_sn545 hw))
 have F_this_0_r0_4 := F_this_0_r0_3.other W4 (Or.inr (own_sn546 hw))
 have A_b3_4 := A_b3_3.other W4 (Ne.symm ne_r0_b3)
 have K4 := K3.wr W4 (Or.inl (List.mem_of_getElem? (i := 0) rfl))
 have N4 := Fr.snoc X4 N1 ge_r0
 have Z4 : n0 ≤ h4.size := Nat.le_trans Z3 (Keep.of_wr W4).1
 have F_senders_r0_4 := F_senders_r0_3.same W4
 refine own_go (fun tg k => st4 tg k) ?_
 refine own_go (fun _ k => XS.aloadN X4.here hx rfl (hb hby d9_17) rfl rfl (XS.bipush X4.here hx rfl (hb hby d9_18) k)) ?_
 obtain ⟨T5, h5, k5, X5, e5, E5, A5, st5⟩ := newP X4 hx hZ (oW hw 49 rfl) e4 (g := (mkF m 20 #[oR r0, oR r1] [(.int 16), (.ref r0)])) rfl (hb hby d9_20) rfl (by decide) (cap := 16) (by decide) (by decide) (by decide) (by decide)
 obtain ⟨b5, g5⟩ : ∃ z, z = h4.size := ⟨_, rfl⟩
 rw [← g5] at A5 st5
 have ne_r0_b5 : r0 ≠ b5 := Nat.ne_of_lt (Nat.lt_of_lt_of_le E_r0_4.lt (Nat.le_of_eq g5.symm))
 have ne_b3_b5 : b3 ≠ b5 := Nat.ne_of_lt (Nat.lt_of_lt_of_le A_b3_4.lt (Nat.le_of_eq g5.symm))
 have ge_b5 : n0 ≤ b5 := Nat.le_trans Z4 (Nat.le_of_eq g5.symm)
 have sz_b5 : h0.size ≤ b5 := Nat.le_trans K4.1 (Nat.le_of_eq g5.symm)
 have E_r0_5 := E_r0_4.ext E5
 have F_size_r0_5 := F_size_r0_4.ext E5
 have F_senders_r0_5 := F_senders_r0_4.ext E5
 have F_receivers_r0_5 := F_receivers_r0_4.ext E5
 have F_messages_r0_5 := F_messages_r0_4.ext E5
 have F_this_0_r0_5 := F_this_0_r0_4.ext E5
 have A_b3_5 := A_b3_4.ext E5
 have K5 := K4.ext E5
 have Z5 : n0 ≤ h5.size := Nat.le_trans Z4 E5.1
 have A_b5_5 : own_Arf Z h5 b5 .int (16 : Int32) (fun i => .int ((fun _ => (0 : Int32)) i)) := own_Arf.new A5 (by decide)
 refine own_go (fun tg k => st5 tg k) ?_
 obtain ⟨T6, h6, X6, e6, W6, st6⟩ := putF X5 hx hZ hown (host := "") (Or.inl (oW hw 86 rfl)) Via.refl e5 F_receivers_r0_5 E_r0_5 (Or.inl (oW hw 87 rfl)) (oW hw 76 rfl) (ty := (.array .int)) (by decide) rfl rfl (g := (mkF m 22 #[oR r0, oR r1] [(.ref b5), (.ref r0)])) rfl rfl (hb hby d9_22)
 have E_r0_6 := E_r0_5.wr W6
 have F_size_r0_6 := F_size_r0_5.other W6 (Or.inr (own_sn547 hw))
 have F_senders_r0_6 := F_senders_r0_5.other W6 (Or.inr (own_sn548 hw))
 have F_messages_r0_6 := F_messages_r0_5.other W6 (Or.inr (own_sn549 hw))
 have F_this_0_r0_6 := F_this_0_r0_5.other W6 (Or.inr (own_sn550 hw))
 have A_b3_6 := A_b3_5.other W6 (Ne.symm ne_r0_b3)
 have A_b5_6 := A_b5_5.other W6 (Ne.symm ne_r0_b5)
 have K6 := K5.wr W6 (Or.inl (List.mem_of_getElem? (i := 0) rfl))
 have N6 := Fr.snoc X6 N4 ge_r0
 have Z6 : n0 ≤ h6.size := Nat.le_trans Z5 (Keep.of_wr W6).1
 have F_receivers_r0_6 := F_receivers_r0_5.same W6
 refine own_go (fun tg k => st6 tg k) ?_
 refine own_go (fun _ k => XS.aloadN X6.here hx rfl (hb hby d9_25) rfl rfl (XS.bipush X6.here hx rfl (hb hby d9_26) k)) ?_
 obtain ⟨T7, h7, k7, X7, e7, E7, A7, st7⟩ := newP X6 hx hZ (oW hw 56 rfl) e6 (g := (mkF m 28 #[oR r0, oR r1] [(.int 16), (.ref r0)])) rfl (hb hby d9_28) rfl (by decide) (cap := 16) (by decide) (by decide) (by decide) (by decide)
 obtain ⟨b7, g7⟩ : ∃ z, z = h6.size := ⟨_, rfl⟩
 rw [← g7] at A7 st7
 have ne_r0_b7 : r0 ≠ b7 := Nat.ne_of_lt (Nat.lt_of_lt_of_le E_r0_6.lt (Nat.le_of_eq g7.symm))
 have ne_b3_b7 : b3 ≠ b7 := Nat.ne_of_lt (Nat.lt_of_lt_of_le A_b3_6.lt (Nat.le_of_eq g7.symm))
 have ne_b5_b7 : b5 ≠ b7 := Nat.ne_of_lt (Nat.lt_of_lt_of_le A_b5_6.lt (Nat.le_of_eq g7.symm))
 have ge_b7 : n0 ≤ b7 := Nat.le_trans Z6 (Nat.le_of_eq g7.symm)
 have sz_b7 : h0.size ≤ b7 := Nat.le_trans K6.1 (Nat.le_of_eq g7.symm)
 have E_r0_7 := E_r0_6.ext E7
 have F_size_r0_7 := F_size_r0_6.ext E7
 have F_senders_r0_7 := F_senders_r0_6.ext E7
 have F_receivers_r0_7 := F_receivers_r0_6.ext E7
 have F_messages_r0_7 := F_messages_r0_6.ext E7
 have F_this_0_r0_7 := F_this_0_r0_6.ext E7
 have A_b3_7 := A_b3_6.ext E7
 have A_b5_7 := A_b5_6.ext E7
 have K7 := K6.ext E7
 have Z7 : n0 ≤ h7.size := Nat.le_trans Z6 E7.1
 have A_b7_7 : own_Arf Z h7 b7 .long (16 : Int32) (fun i => .long ((fun _ => (0 : Int64)) i)) := own_Arf.new A7 (by decide)
 refine own_go (fun tg k => st7 tg k) ?_
 obtain ⟨T8, h8, X8, e8, W8, st8⟩ := putF X7 hx hZ hown (host := "") (Or.inl (oW hw 88 rfl)) Via.refl e7 F_messages_r0_7 E_r0_7 (Or.inl (oW hw 89 rfl)) (oW hw 76 rfl) (ty := (.array .long)) (by decide) rfl rfl (g := (mkF m 30 #[oR r0, oR r1] [(.ref b7), (.ref r0)])) rfl rfl (hb hby d9_30)
 have E_r0_8 := E_r0_7.wr W8
 have F_size_r0_8 := F_size_r0_7.other W8 (Or.inr (own_sn551 hw))
 have F_senders_r0_8 := F_senders_r0_7.other W8 (Or.inr (own_sn552 hw))
 have F_receivers_r0_8 := F_receivers_r0_7.other W8 (Or.inr (own_sn553 hw))
 have F_this_0_r0_8 := F_this_0_r0_7.other W8 (Or.inr (own_sn554 hw))
 have A_b3_8 := A_b3_7.other W8 (Ne.symm ne_r0_b3)
 have A_b5_8 := A_b5_7.other W8 (Ne.symm ne_r0_b5)
 have A_b7_8 := A_b7_7.other W8 (Ne.symm ne_r0_b7)
 have K8 := K7.wr W8 (Or.inl (List.mem_of_getElem? (i := 0) rfl))
 have N8 := Fr.snoc X8 N6 ge_r0
 have Z8 : n0 ≤ h8.size := Nat.le_trans Z7 (Keep.of_wr W8).1
 have F_messages_r0_8 := F_messages_r0_7.same W8
 refine own_go (fun tg k => st8 tg k) ?_
 refine own_retV X8 hx hlk Bd.returns (hb hby d9_33) (Nat.le_of_ble_eq_true rfl) (Nat.le_of_ble_eq_true rfl) ?_
 rw [e8]
 refine ⟨b3, b5, b7, rfl, N8, K8, sz_b3, sz_b5, sz_b7, E_r0_8, ?_, ?_, ?_, ?_, ?_, ?_, ?_, ne_b3_b5⟩
 · (exact F_size_r0_8)
 · (exact F_senders_r0_8)
 · (exact F_receivers_r0_8)
 · (exact F_messages_r0_8)
 · (exact A_b3_8)
 · (exact A_b5_8)
 · (exact A_b7_8)
theorem own_sn575 {Z : State} {a0 : Array Value} (hw : oH Z a0) : oO Z oC2 "senders" "[I" ≠ oO Z oC2 "size" "I" := slot_ne (Or.inl (oW hw 85 rfl)) (Or.inl (oW hw 97 rfl)) (by decide) (t := (.array .int)) (t' := .int) (by decide) (by decide)
theorem own_sn576 {Z : State} {a0 : Array Value} (hw : oH Z a0) : oO Z oC2 "receivers" "[I" ≠ oO Z oC2 "size" "I" := slot_ne (Or.inl (oW hw 87 rfl)) (Or.inl (oW hw 97 rfl)) (by decide) (t := (.array .int)) (t' := .int) (by decide) (by decide)
theorem own_sn577 {Z : State} {a0 : Array Value} (hw : oH Z a0) : oO Z oC2 "messages" "[J" ≠ oO Z oC2 "size" "I" := slot_ne (Or.inl (oW hw 89 rfl)) (Or.inl (oW hw 97 rfl)) (by decide) (t := (.array .long)) (t' := .int) (by decide) (by decide)
theorem d10_0 : oQ oD27 0 (.aload_n 0) 1 := by decide +kernel
theorem d10_1 : oQ oD27 1 (.getfield 26) 3 := by decide +kernel
theorem d10_4 : oQ oD27 4 (.aload_n 0) 1 := by decide +kernel
theorem d10_5 : oQ oD27 5 (.getfield 15) 3 := by decide +kernel
theorem d10_8 : oQ oD27 8 .arraylength 1 := by decide +kernel
theorem d10_9 : oQ oD27 9 (.if_icmp .ne 89) 3 := by decide +kernel
theorem d10_98 : oQ oD27 98 (.aload_n 0) 1 := by decide +kernel
theorem d10_99 : oQ oD27 99 (.getfield 15) 3 := by decide +kernel
theorem d10_102 : oQ oD27 102 (.aload_n 0) 1 := by decide +kernel
theorem d10_103 : oQ oD27 103 (.getfield 26) 3 := by decide +kernel
theorem d10_106 : oQ oD27 106 (.iload_n 1) 1 := by decide +kernel
theorem d10_107 : oQ oD27 107 .iastore 1 := by decide +kernel
theorem d10_108 : oQ oD27 108 (.aload_n 0) 1 := by decide +kernel
theorem d10_109 : oQ oD27 109 (.getfield 19) 3 := by decide +kernel
theorem d10_112 : oQ oD27 112 (.aload_n 0) 1 := by decide +kernel
theorem d10_113 : oQ oD27 113 (.getfield 26) 3 := by decide +kernel
theorem d10_116 : oQ oD27 116 (.iload_n 2) 1 := by decide +kernel
theorem d10_117 : oQ oD27 117 .iastore 1 := by decide +kernel
theorem d10_118 : oQ oD27 118 (.aload_n 0) 1 := by decide +kernel
theorem d10_119 : oQ oD27 119 (.getfield 22) 3 := by decide +kernel
theorem d10_122 : oQ oD27 122 (.aload_n 0) 1 := by decide +kernel
theorem d10_123 : oQ oD27 123 (.getfield 26) 3 := by decide +kernel
theorem d10_126 : oQ oD27 126 (.lload_n 3) 1 := by decide +kernel
theorem d10_127 : oQ oD27 127 .lastore 1 := by decide +kernel
theorem d10_128 : oQ oD27 128 (.aload_n 0) 1 := by decide +kernel
theorem d10_129 : oQ oD27 129 .dup 1 := by decide +kernel
theorem d10_130 : oQ oD27 130 (.getfield 26) 3 := by decide +kernel
theorem d10_133 : oQ oD27 133 (.iconst 1) 1 := by decide +kernel
theorem d10_134 : oQ oD27 134 .iadd 1 := by decide +kernel
theorem d10_135 : oQ oD27 135 (.putfield 26) 3 := by decide +kernel
theorem d10_138 : oQ oD27 138 .return_ 1 := by decide +kernel
theorem pn_10 : plainName oC2 = true := by first | (simp [plainName, overriddenIn]; done) | decide +kernel
theorem ef_10 (m : MethodId) (r0 : Addr) (p1 : Int32) (p2 : Int32) (q3 : Int64) : entryFrame m #[(.ref r0), (.int p1), (.int p2), (.long q3)] 6 = mkF m 0 #[oR r0, oI p1, oI p2, oJ q3, oS, oU] [] := by first | (simp [entryFrame, mkF, argsToLocals, Value.category]; done) | rfl
def rm10_room : Room := { frames := 0, cells := 0, slots := 0, locals := 0 }
def Qrm10 (Z : State) (r0 : Addr) (p1 : Int32) (p2 : Int32) (q3 : Int64) (z : Int32) (b1 : Addr) (b2 : Addr) (b3 : Addr) (k1 : Nat → Int32) (k2 : Nat → Int32) (k3 : Nat → Int64) (h0 : Heap) (n0 : Nat) (v : Option Value) (h : Heap) (L : List Loc) : Prop := v = none ∧ Fr n0 L ∧ Keep h0 h [r0, b1, b2, b3] ∧ Exa Z h r0 oC2 ∧ Fld Z h r0 oC2 "size" "I" (.int (z + (1 : Int32))) ∧ Fld Z h r0 oC2 "senders" "[I" (.ref b1) ∧ Fld Z h r0 oC2 "receivers" "[I" (.ref b2) ∧ Fld Z h r0 oC2 "messages" "[J" (.ref b3) ∧ own_Arf Z h b1 .int (16 : Int32) (fun i => .int ((own_set k1 z p1) i)) ∧ own_Arf Z h b2 .int (16 : Int32) (fun i => .int ((own_set k2 z p2) i)) ∧ own_Arf Z h b3 .long (16 : Int32) (fun i => .long ((own_set k3 z q3) i))
set_option maxRecDepth 65536 in
set_option maxHeartbeats 40000000 in
theorem rm10 (l : Launch) (Z : State) (a0 : Array Value) (hw : oH Z a0) (ws : List Jvm.Cond) (r0 : Addr) (p1 : Int32) (p2 : Int32) (q3 : Int64) (z : Int32) (b1 : Addr) (b2 : Addr) (b3 : Addr) (k1 : Nat → Int32) (k2 : Nat → Int32) (k3 : Nat → Int64) (h0 : Heap) (n0 : Nat) (Z0 : n0 ≤ h0.size) (E_r0_0 : Exa Z h0 r0 oC2) (F_size_r0_0 : Fld Z h0 r0 oC2 "size" "I" (.int z)) (F_senders_r0_0 : Fld Z h0 r0 oC2 "senders" "[I" (.ref b1)) (F_receivers_r0_0 : Fld Z h0 r0 oC2 "receivers" "[I" (.ref b2)) (F_messages_r0_0 : Fld Z h0 r0 oC2 "messages" "[J" (.ref b3)) (A_b1_0 : own_Arf Z h0 b1 .int (16 : Int32) (fun i => .int (k1 i))) (A_b2_0 : own_Arf Z h0 b2 .int (16 : Int32) (fun i => .int (k2 i))) (A_b3_0 : own_Arf Z h0 b3 .long (16 : Int32) (fun i => .long (k3 i))) (ge_r0 : n0 ≤ r0) (ge_b1 : n0 ≤ b1) (ge_b2 : n0 ≤ b2) (ge_b3 : n0 ≤ b3) (ne_b1_b2 : b1 ≠ b2) (hz : ¬ z < 0 ∧ z < (16 : Int32)) :
    MetFree l oM27 (head1 (Jvm.Cond.code oM27 prog_19_method_2_code 6 none :: ws) rm10_room) (fun a U => a = #[(.ref r0), (.int p1), (.int p2), (.long q3)] ∧ Z.Warmed39 U.vm ∧ U.heap = h0) (fun _ _ _ _ _ => True) (fun _ U o U' => ∃ v L, o = .returned v ∧ Qrm10 Z r0 p1 p2 q3 z b1 b2 b3 k1 k2 k3 h0 n0 v U'.heap L ∧ FrameEnd U o U' L rm10_room.cells rm10_room.slots) := by
 refine MetFree.of_bodySF (plainFor_of_name pn_10) hisR ?_
 intro p e s m args below meth c s₁ Bd hml0 hP hK
 obtain ⟨rfl, hZ, hh⟩ := hP
 have hx := Bd.exec
 have hby := Bd.bytes
 have hml : c.maxLocals = 6 := hml0
 have hown : s.vm.findClass oC2 = some m.cls := findClass_of_methodNamed Bd.named
 have hnm := (name_of_methodNamed Bd.named Bd.method).1
 have hlk : meth.locks = false := BodyLoose.notSynchronized Bd
 have X0 : Stand p l e rm10_room s m #[(.ref r0), (.int p1), (.int p2), (.long q3)] below meth c s₁ [] 0 0 := Stand.of_body Bd
 have e0 : s₁.heap = h0 := by rw [← hh, Bd.state]; rfl
 have N0 := Fr.nil n0
 show own_Fin p.tables e below s (Qrm10 Z r0 p1 p2 q3 z b1 b2 b3 k1 k2 k3 h0 n0) rm10_room.cells rm10_room.slots (s₁.setTop (entryFrame m #[(.ref r0), (.int p1), (.int p2), (.long q3)] 6))
 rw [ef_10]
 show oF (s₁.setTop (mkF m 0 #[oR r0, oI p1, oI p2, oJ q3, oS, oU] []))
 have K0 := Keep.refl h0 [r0, b1, b2, b3]
 refine own_go (fun _ k => XS.aloadN X0.here hx rfl (hb hby d10_0) rfl rfl k) ?_
 obtain ⟨T1, X1, e1, st1⟩ := getF X0 hx hZ hown (host := "") (Or.inl (oW hw 96 rfl)) Via.refl e0 F_size_r0_0 (g := (mkF m 1 #[oR r0, oI p1, oI p2, oJ q3, oS, oU] [(.ref r0)])) rfl rfl (hb hby d10_1)
 refine own_go (fun tg k => st1 tg k) ?_
 refine own_go (fun _ k => XS.aloadN X1.here hx rfl (hb hby d10_4) rfl rfl k) ?_
 obtain ⟨T2, X2, e2, st2⟩ := getF X1 hx hZ hown (host := "") (Or.inl (oW hw 84 rfl)) Via.refl e1 F_senders_r0_0 (g := (mkF m 5 #[oR r0, oI p1, oI p2, oJ q3, oS, oU] [(.ref r0), (.int z)])) rfl rfl (hb hby d10_5)
 refine own_go (fun tg k => st2 tg k) ?_
 refine own_go (fun tg k => own_alen X2 hx hZ e2 A_b1_0 (g := (mkF m 8 #[oR r0, oI p1, oI p2, oJ q3, oS, oU] [(.ref b1), (.int z)])) rfl rfl (hb hby d10_8) tg k) ?_
 have hc9 : ¬ (z = (16 : Int32)) := (own_ne16 hz.2)
 refine own_go (fun _ k => XS.icmpYes X2.here hx rfl (pc0 := 9) (pc' := 98) rfl (hb hby d10_9) rfl (feq hc9).2 (by decide) (by decide) (XS.aloadN X2.here hx rfl (hb hby d10_98) rfl rfl k)) ?_
 obtain ⟨T3, X3, e3, st3⟩ := getF X2 hx hZ hown (host := "") (Or.inl (oW hw 84 rfl)) Via.refl e2 F_senders_r0_0 (g := (mkF m 99 #[oR r0, oI p1, oI p2, oJ q3, oS, oU] [(.ref r0)])) rfl rfl (hb hby d10_99)
 refine own_go (fun tg k => st3 tg k) ?_
 refine own_go (fun _ k => XS.aloadN X3.here hx rfl (hb hby d10_102) rfl rfl k) ?_
 obtain ⟨T4, X4, e4, st4⟩ := getF X3 hx hZ hown (host := "") (Or.inl (oW hw 96 rfl)) Via.refl e3 F_size_r0_0 (g := (mkF m 103 #[oR r0, oI p1, oI p2, oJ q3, oS, oU] [(.ref r0), (.ref b1)])) rfl rfl (hb hby d10_103)
 refine own_go (fun tg k => st4 tg k) ?_
 refine own_go (fun _ k => XS.iloadN X4.here hx rfl (hb hby d10_106) rfl k) ?_
 obtain ⟨T5, h5, X5, e5, W5, A_b1_5, st5⟩ := own_stI X4 hx hZ e4 A_b1_0 (j := z) hz (g := (mkF m 107 #[oR r0, oI p1, oI p2, oJ q3, oS, oU] [(.int p1), (.int z), (.ref b1)])) rfl rfl (hb hby d10_107)
 have E_r0_5 := E_r0_0.wr W5
 have u5_r0 := (own_ne_arf E_r0_0 (oW hw 76 rfl) A_b1_0)
 have F_size_r0_5 := F_size_r0_0.other W5 (Or.inl u5_r0)
 have F_senders_r0_5 := F_senders_r0_0.other W5 (Or.inl u5_r0)
 have F_receivers_r0_5 := F_receivers_r0_0.other W5 (Or.inl u5_r0)
 have F_messages_r0_5 := F_messages_r0_0.other W5 (Or.inl u5_r0)
 have A_b2_5 := A_b2_0.other W5 (Ne.symm ne_b1_b2)
 have A_b3_5 := A_b3_0.other W5 (own_ne_ty A_b3_0 A_b1_0 (by decide))
 have K5 := K0.wr W5 (Or.inl (List.mem_of_getElem? (i := 1) rfl))
 have N5 := Fr.snoc X5 N0 ge_b1
 have Z5 : n0 ≤ h5.size := Nat.le_trans Z0 (Keep.of_wr W5).1
 refine own_go (fun tg k => st5 tg k) ?_
 refine own_go (fun _ k => XS.aloadN X5.here hx rfl (hb hby d10_108) rfl rfl k) ?_
 obtain ⟨T6, X6, e6, st6⟩ := getF X5 hx hZ hown (host := "") (Or.inl (oW hw 86 rfl)) Via.refl e5 F_receivers_r0_5 (g := (mkF m 109 #[oR r0, oI p1, oI p2, oJ q3, oS, oU] [(.ref r0)])) rfl rfl (hb hby d10_109)
 refine own_go (fun tg k => st6 tg k) ?_
 refine own_go (fun _ k => XS.aloadN X6.here hx rfl (hb hby d10_112) rfl rfl k) ?_
 obtain ⟨T7, X7, e7, st7⟩ := getF X6 hx hZ hown (host := "") (Or.inl (oW hw 96 rfl)) Via.refl e6 F_size_r0_5 (g := (mkF m 113 #[oR r0, oI p1, oI p2, oJ q3, oS, oU] [(.ref r0), (.ref b2)])) rfl rfl (hb hby d10_113)
 refine own_go (fun tg k => st7 tg k) ?_
 refine own_go (fun _ k => XS.iloadN X7.here hx rfl (hb hby d10_116) rfl k) ?_
 obtain ⟨T8, h8, X8, e8, W8, A_b2_8, st8⟩ := own_stI X7 hx hZ e7 A_b2_5 (j := z) hz (g := (mkF m 117 #[oR r0, oI p1, oI p2, oJ q3, oS, oU] [(.int p2), (.int z), (.ref b2)])) rfl rfl (hb hby d10_117)
 have E_r0_8 := E_r0_5.wr W8
 have u8_r0 := (own_ne_arf E_r0_5 (oW hw 76 rfl) A_b2_5)
 have F_size_r0_8 := F_size_r0_5.other W8 (Or.inl u8_r0)
 have F_senders_r0_8 := F_senders_r0_5.other W8 (Or.inl u8_r0)
 have F_receivers_r0_8 := F_receivers_r0_5.other W8 (Or.inl u8_r0)
 have F_messages_r0_8 := F_messages_r0_5.other W8 (Or.inl u8_r0)
 have A_b1_8 := A_b1_5.other W8 ne_b1_b2
 have A_b3_8 := A_b3_5.other W8 (own_ne_ty A_b3_5 A_b2_5 (by decide))
 have K8 := K5.wr W8 (Or.inl (List.mem_of_getElem? (i := 2) rfl))
 have N8 := Fr.snoc X8 N5 ge_b2
 have Z8 : n0 ≤ h8.size := Nat.le_trans Z5 (Keep.of_wr W8).1
 refine own_go (fun tg k => st8 tg k) ?_
 refine own_go (fun _ k => XS.aloadN X8.here hx rfl (hb hby d10_118) rfl rfl k) ?_
 obtain ⟨T9, X9, e9, st9⟩ := getF X8 hx hZ hown (host := "") (Or.inl (oW hw 88 rfl)) Via.refl e8 F_messages_r0_8 (g := (mkF m 119 #[oR r0, oI p1, oI p2, oJ q3, oS, oU] [(.ref r0)])) rfl rfl (hb hby d10_119)
 refine own_go (fun tg k => st9 tg k) ?_
 refine own_go (fun _ k => XS.aloadN X9.here hx rfl (hb hby d10_122) rfl rfl k) ?_
 obtain ⟨T10, X10, e10, st10⟩ := getF X9 hx hZ hown (host := "") (Or.inl (oW hw 96 rfl)) Via.refl e9 F_size_r0_8 (g := (mkF m 123 #[oR r0, oI p1, oI p2, oJ q3, oS, oU] [(.ref r0), (.ref b3)])) rfl rfl (hb hby d10_123)
 refine own_go (fun tg k => st10 tg k) ?_
 refine own_go (fun _ k => XS.lloadN X10.here hx rfl (hb hby d10_126) rfl k) ?_
 obtain ⟨T11, h11, X11, e11, W11, A_b3_11, st11⟩ := own_stJ X10 hx hZ e10 A_b3_8 (j := z) hz (g := (mkF m 127 #[oR r0, oI p1, oI p2, oJ q3, oS, oU] [(.long q3), (.int z), (.ref b3)])) rfl rfl (hb hby d10_127)
 have E_r0_11 := E_r0_8.wr W11
 have u11_r0 := (own_ne_arf E_r0_8 (oW hw 76 rfl) A_b3_8)
 have F_size_r0_11 := F_size_r0_8.other W11 (Or.inl u11_r0)
 have F_senders_r0_11 := F_senders_r0_8.other W11 (Or.inl u11_r0)
 have F_receivers_r0_11 := F_receivers_r0_8.other W11 (Or.inl u11_r0)
 have F_messages_r0_11 := F_messages_r0_8.other W11 (Or.inl u11_r0)
 have A_b1_11 := A_b1_8.other W11 (own_ne_ty A_b1_8 A_b3_8 (by decide))
 have A_b2_11 := A_b2_8.other W11 (own_ne_ty A_b2_8 A_b3_8 (by decide))
 have K11 := K8.wr W11 (Or.inl (List.mem_of_getElem? (i := 3) rfl))
 have N11 := Fr.snoc X11 N8 ge_b3
 have Z11 : n0 ≤ h11.size := Nat.le_trans Z8 (Keep.of_wr W11).1
 refine own_go (fun tg k => st11 tg k) ?_
 refine own_go (fun _ k => XS.aloadN X11.here hx rfl (hb hby d10_128) rfl rfl (XS.dup X11.here hx rfl (hb hby d10_129) rfl rfl k)) ?_
 obtain ⟨T12, X12, e12, st12⟩ := getF X11 hx hZ hown (host := "") (Or.inl (oW hw 96 rfl)) Via.refl e11 F_size_r0_11 (g := (mkF m 130 #[oR r0, oI p1, oI p2, oJ q3, oS, oU] [(.ref r0), (.ref r0)])) rfl rfl (hb hby d10_130)
 refine own_go (fun tg k => st12 tg k) ?_
 refine own_go (fun _ k => XS.iconst X12.here hx rfl (hb hby d10_133) (XS.iadd X12.here hx rfl (hb hby d10_134) rfl k)) ?_
 obtain ⟨T13, h13, X13, e13, W13, st13⟩ := putF X12 hx hZ hown (host := "") (Or.inl (oW hw 96 rfl)) Via.refl e12 F_size_r0_11 E_r0_11 (Or.inl (oW hw 97 rfl)) (oW hw 76 rfl) (ty := .int) (by decide) rfl rfl (g := (mkF m 135 #[oR r0, oI p1, oI p2, oJ q3, oS, oU] [(.int (z + (1 : Int32))), (.ref r0)])) rfl rfl (hb hby d10_135)
 have E_r0_13 := E_r0_11.wr W13
 have F_senders_r0_13 := F_senders_r0_11.other W13 (Or.inr (own_sn575 hw))
 have F_receivers_r0_13 := F_receivers_r0_11.other W13 (Or.inr (own_sn576 hw))
 have F_messages_r0_13 := F_messages_r0_11.other W13 (Or.inr (own_sn577 hw))
 have A_b1_13 := A_b1_11.other W13 (Ne.symm (own_ne_arf E_r0_11 (oW hw 76 rfl) A_b1_11))
 have A_b2_13 := A_b2_11.other W13 (Ne.symm (own_ne_arf E_r0_11 (oW hw 76 rfl) A_b2_11))
 have A_b3_13 := A_b3_11.other W13 (Ne.symm (own_ne_arf E_r0_11 (oW hw 76 rfl) A_b3_11))
 have K13 := K11.wr W13 (Or.inl (List.mem_of_getElem? (i := 0) rfl))
 have N13 := Fr.snoc X13 N11 ge_r0
 have Z13 : n0 ≤ h13.size := Nat.le_trans Z11 (Keep.of_wr W13).1
 have F_size_r0_13 := F_size_r0_11.same W13
 refine own_go (fun tg k => st13 tg k) ?_
 refine own_retV X13 hx hlk Bd.returns (hb hby d10_138) (Nat.le_of_ble_eq_true rfl) (Nat.le_of_ble_eq_true rfl) ?_
 rw [e13]
 refine ⟨rfl, N13, K13, E_r0_13, ?_, ?_, ?_, ?_, ?_, ?_, ?_⟩
 · (exact F_size_r0_13)
 · (exact F_senders_r0_13)
 · (exact F_receivers_r0_13)
 · (exact F_messages_r0_13)
 · (exact A_b1_13)
 · (exact A_b2_13)
 · (exact A_b3_13)
/-! the second delivery: what was delivered is taken away -/
section OwnZ
variable {M : List Int32} {n nb k i : Int32} {g eF : Nat → Int32} {j : Nat}
def own_ZI (M : List Int32) (n k : Int32) (g : Nat → Int32) (i : Int32) (eF : Nat → Int32) : Prop := own_BS M k g ∧ ∃ j : Nat, i = Int32.ofNat j ∧ j ≤ k.toNatClampNeg ∧ ∀ x, x < n.toNatClampNeg → eF x ≠ 0 → ∃ l, j ≤ l ∧ l < k.toNatClampNeg ∧ x / 1024 = (g l).toNatClampNeg
theorem own_ZI0 (hB : own_BS M k g) : own_ZI M n k g 0 (own_EEf M) := by
  refine ⟨hB, 0, rfl, Nat.zero_le _, fun x hx h => ?_⟩
  obtain ⟨Bs, -, -, -, h4, -, h6, h7⟩ := own_BSk hB
  have h0 : own_ct M x ≠ 0 := fun q => h (by unfold own_EEf; rw [if_pos q])
  obtain ⟨l, h1, h2⟩ := h7 x h0
  exact ⟨l, Nat.zero_le _, by omega, by rw [h2, (h6 l h1).1]⟩
theorem own_ZIj (h : own_ZI M n k g i eF) : ∃ j : Nat, i = Int32.ofNat j ∧ j ≤ k.toNatClampNeg := by obtain ⟨-, j, h1, h2, -⟩ := h; exact ⟨j, h1, h2⟩
theorem own_bEd {b : Nat} (hn : own_nn n nb) (hb : Int32.ofNat b < nb) (h3 : b < 3) : ∃ a : Nat, n = Int32.ofNat a ∧ n.toNatClampNeg = a ∧ a ≤ 3072 ∧ 1024 * b < a ∧ own_f26 (Int32.ofNat b) n = Int32.ofNat (min a (1024 * (b + 1))) := by
  obtain ⟨a, m, rfl, rfl, h1, h2, h3, h4, h5⟩ := hn
  have hb : b < m := (own_ofl (by omega) (by omega)).1.mp hb
  refine ⟨a, rfl, (own_no (by omega)).2.1, by omega, by omega, ?_⟩
  unfold own_f26 own_f27
  have e1 : ((Int32.ofNat b + 1).toInt64 * 1024).toInt = 1024 * (b + 1) := by
    rw [show Int32.ofNat b + 1 = Int32.ofNat (b + 1) from own_oad b 1, Int64.toInt_mul, Int32.toInt_toInt64, (own_no (k := b + 1) (by omega)).1, show (1024 : Int64).toInt = 1024 from by decide, Int.bmod_eq_of_le_mul_two (by omega) (by omega)]; omega
  have e2 : (Int32.ofNat a).toInt64.toInt = a := by rw [Int32.toInt_toInt64, (own_no (k := a) (by omega)).1]
  apply Int32.toInt_inj.mp
  rw [(own_no (k := min a (1024 * (b + 1))) (by omega)).1, Int64.toInt_toInt32]
  split
  · rename_i q
    rw [Int64.lt_iff_toInt_lt, e1, e2] at q
    rw [e1, Int.bmod_eq_of_le_mul_two (by omega) (by omega)]; omega
  · rename_i q
    rw [Int64.lt_iff_toInt_lt, e1, e2] at q
    rw [e2, Int.bmod_eq_of_le_mul_two (by omega) (by omega)]; omega
theorem own_ZIf (hn : own_nn n nb) (hm : ∀ r ∈ M, own_in r n) (h : own_ZI M n k g i eF) (hc : i < k) : own_fb (g i.toNatClampNeg * 1024) (own_f26 (g i.toNatClampNeg) n) n := by
  obtain ⟨b, e, h3, hb, -⟩ := own_blk hn hm h.1 (own_ZIj h) hc
  obtain ⟨a, rfl, h0, h1, h2, h4⟩ := own_bEd hn hb h3
  rw [e, h4, show Int32.ofNat b * 1024 = Int32.ofNat (b * 1024) from own_oml b 1024]
  refine ⟨fun q => ?_, (own_no (by omega)).2.2, fun q => ?_⟩
  · have := (own_ofl (by omega) (by omega)).1.mp q; omega
  · have := (own_ofl (by omega) (by omega)).1.mp q; omega
theorem own_ZIs (hn : own_nn n nb) (hm : ∀ r ∈ M, own_in r n) (h : own_ZI M n k g i eF) (hc : i < k) : own_ZI M n k g (i + 1) (own_fil eF (g i.toNatClampNeg * 1024) (own_f26 (g i.toNatClampNeg) n) (0 : Int32)) ∧ (8 - (i + 1).toInt).toNat < (8 - i.toInt).toNat := by
  obtain ⟨b, e, h3, hb, -⟩ := own_blk hn hm h.1 (own_ZIj h) hc
  obtain ⟨a, rfl, h0, h1, h2, h4⟩ := own_bEd hn hb h3
  obtain ⟨hB, j, rfl, hj, hz⟩ := h
  obtain ⟨q1, q2, q3⟩ := own_BSj hB hj
  have hj2 := q2.mp hc
  rw [show Int32.ofNat j + 1 = Int32.ofNat (j + 1) from own_oad j 1, (own_no (k := j) (by omega)).1, (own_no (k := j + 1) (by omega)).1]
  rw [(own_no (k := j) (by omega)).2.1] at e
  refine ⟨⟨hB, j + 1, rfl, by omega, fun x hx hne => ?_⟩, by omega⟩
  rw [(own_no (k := j) (by omega)).2.1, e, h4, show Int32.ofNat b * 1024 = Int32.ofNat (b * 1024) from own_oml b 1024] at hne
  unfold own_fil at hne
  rw [(own_no (k := b * 1024) (by omega)).2.1, (own_no (k := min a (1024 * (b + 1))) (by omega)).2.1] at hne
  by_cases r : b * 1024 ≤ x ∧ x < min a (1024 * (b + 1))
  · rw [if_pos r] at hne; exact absurd rfl hne
  · rw [if_neg r] at hne
    obtain ⟨l, l1, l2, l3⟩ := hz x hx hne
    refine ⟨l, ?_, l2, l3⟩
    rcases Nat.eq_or_lt_of_le l1 with w | w
    · rw [← w, e, (own_no (k := b) (by omega)).2.1] at l3
      rw [h0] at hx; omega
    · exact w
theorem own_ZIx (h : own_ZI M n k g i eF) (hc : ¬ i < k) : ∀ x, x < n.toNatClampNeg → eF x = 0 := fun x hx => by
  obtain ⟨hB, j, rfl, hj, hz⟩ := h
  obtain ⟨q1, q2, q3⟩ := own_BSj hB hj
  apply Classical.byContradiction; intro hne
  obtain ⟨l, l1, l2, -⟩ := hz x hx hne
  exact hc (q2.mpr (by omega))
theorem own_bC (h0 : 0 ≤ n.toInt) (h1 : n.toInt < 3072) : own_nn (1 + n) (own_f4 (1 + n)) := by
  obtain ⟨e1, e2, e3⟩ := own_on (r := n) (by rw [Int32.lt_iff_toInt_lt, show (0 : Int32).toInt = 0 from by decide]; omega)
  have e : 1 + n = Int32.ofNat (1 + n.toNatClampNeg) := by
    conv => lhs; rw [e1]
    exact own_oad 1 _
  rw [e]
  have hx : n.toNatClampNeg < 3072 := by omega
  generalize n.toNatClampNeg = x at *
  refine ⟨1 + x, (1 + x + 1023) / 1024, rfl, ?_, by omega, by omega, by omega, by omega, by omega⟩
  unfold own_f4
  rw [show (Int32.ofNat (1 + x) + 1024) - 1 = Int32.ofNat (1 + x + 1023) from by
    rw [show (1024 : Int32) = Int32.ofNat 1024 from rfl, own_oad, show 1 + x + 1024 = (1 + x + 1023) + 1 from by omega, ← own_oad _ 1]; exact Int32.add_sub_cancel _ _]
  exact own_odv (d := 1024) (by omega) (by decide) (by decide)
end OwnZ
theorem own_BLx (fi : Nat → Int32) {n nb : Int32} {L0 L1 : List Int32} (hn : own_nn n nb) (hm : ∀ r ∈ L0 ++ L1, own_in r n) : (∃ Bs, own_BL (L0 ++ L1) (own_adds (own_adds (own_v0 fi) L0) L1) Bs) ∧ own_Wd (L0 ++ L1) (own_adds (own_adds (own_v0 fi) L0) L1).w_ := by
  rw [own_addA]
  refine ⟨?_, ?_⟩
  · have q := own_BLa hn hm (own_BL0 fi); rwa [List.nil_append] at q
  · have q := own_Wda hn hm (own_Wd0 fi); rwa [List.nil_append] at q
def own_dr (L0 L1 : List Int32) : Int32 := if L0 ++ L1 = [] then 0 else 1
theorem own_nb3 {n nb : Int32} (hn : own_nn n nb) : ∃ m : Nat, nb = Int32.ofNat m ∧ m ≤ 3 := by obtain ⟨a, m, -, h2, -, -, -, h6, -⟩ := hn; exact ⟨m, h2, h6⟩
theorem own_dr0 {L0 L1 : List Int32} (hl : L0.length + L1.length ≤ 4) (h : own_tot (own_tot 0 L0) L1 = 0) : L0 ++ L1 = [] ∧ own_dr L0 L1 = 0 := by
  have q := (own_ttl hl).2.2.mp h
  exact ⟨q, by unfold own_dr; rw [if_pos q]⟩
theorem own_dr1 {L0 L1 : List Int32} (h : ¬ own_tot (own_tot 0 L0) L1 = 0) : own_dr L0 L1 = 1 := by
  unfold own_dr; rw [if_neg (fun q => h (own_tot0 q))]

def own_AMf (Z : State) (h : Heap) (n0 : Nat) (r0 : Addr) (n : Int32) (La Lb : List Int32) : Prop := ∃ (ob : Addr) (rv : Addr) (dl : Int32) (vS : Value) (vM : Value) (v0 : Value) (v1 : Value) (Da : List Addr) (Db : List Addr) (wd : Addr) (hd : Addr) (il : Addr) (ix : Addr) (nb : Int32) (fi : Nat → Int32), Exa Z h r0 oC0 ∧ Fld Z h r0 oC0 "receivers" "I" (.int n) ∧ Fld Z h r0 oC0 "outboxes" oC4 (.ref ob) ∧ Fld Z h r0 oC0 "recipients" oC6 (.ref rv) ∧ Fld Z h r0 oC0 "delivered" "I" (.int dl) ∧ Fld Z h r0 oC0 "senders" "[I" vS ∧ Fld Z h r0 oC0 "messages" "[J" vM ∧ Fld Z h r0 oC0 "first" "[I" .null ∧ Fld Z h r0 oC0 "end" "[I" .null ∧ own_Oa Z h ob oC2 v0 v1 ∧ own_Box Z h n0 v0 Da La ∧ own_Box Z h n0 v1 Db Lb ∧ Exa Z h rv oC1 ∧ Fld Z h rv oC1 "words" "[J" (.ref wd) ∧ Fld Z h rv oC1 "held" "[Z" (.ref hd) ∧ Fld Z h rv oC1 "blocks" oC5 (.ref il) ∧ Fld Z h rv oC1 "sorted" "Z" (.int 1) ∧ Exa Z h il oC3 ∧ Fld Z h il oC3 "indices" "[I" (.ref ix) ∧ Fld Z h il oC3 "size" "I" (.int 0) ∧ own_Arf Z h ix .int (16 : Int32) (fun i => .int (fi i)) ∧ own_Arf Z h wd .long (nb * (16 : Int32)) (fun i => .long ((fun _ => (0 : Int64)) i)) ∧ own_Arf Z h hd .boolean nb (fun i => .int ((fun _ => (0 : Int32)) i)) ∧ n0 ≤ r0 ∧ n0 ≤ rv ∧ n0 ≤ wd ∧ n0 ≤ hd ∧ n0 ≤ il ∧ n0 ≤ ix ∧ n0 ≤ ob ∧ r0 ∉ Da ∧ r0 ∉ Db ∧ rv ∉ Da ∧ rv ∉ Db ∧ wd ∉ Da ∧ wd ∉ Db ∧ hd ∉ Da ∧ hd ∉ Db ∧ il ∉ Da ∧ il ∉ Db ∧ ix ∉ Da ∧ ix ∉ Db ∧ ob ∉ Da ∧ ob ∉ Db ∧ (∀ x ∈ Da, x ∉ Db) ∧ own_nn n nb
def own_AMu (Z : State) (h : Heap) (n0 : Nat) (r0 : Addr) (n : Int32) (M : List Int32) : Prop := ∃ (ob : Addr) (rv : Addr) (dl : Int32) (vS : Value) (vM : Value) (fa : Addr) (ea : Addr) (v0 : Value) (v1 : Value) (Da : List Addr) (Db : List Addr) (wd : Addr) (hd : Addr) (il : Addr) (ix : Addr) (nb : Int32) (fi : Nat → Int32) (kz : Int32) (fw : Nat → Int64) (fh : Nat → Int32) (fF0 : Nat → Int32), Exa Z h r0 oC0 ∧ Fld Z h r0 oC0 "receivers" "I" (.int n) ∧ Fld Z h r0 oC0 "outboxes" oC4 (.ref ob) ∧ Fld Z h r0 oC0 "recipients" oC6 (.ref rv) ∧ Fld Z h r0 oC0 "delivered" "I" (.int dl) ∧ Fld Z h r0 oC0 "senders" "[I" vS ∧ Fld Z h r0 oC0 "messages" "[J" vM ∧ Fld Z h r0 oC0 "first" "[I" (.ref fa) ∧ Fld Z h r0 oC0 "end" "[I" (.ref ea) ∧ own_Oa Z h ob oC2 v0 v1 ∧ own_Box Z h n0 v0 Da [] ∧ own_Box Z h n0 v1 Db [] ∧ Exa Z h rv oC1 ∧ Fld Z h rv oC1 "words" "[J" (.ref wd) ∧ Fld Z h rv oC1 "held" "[Z" (.ref hd) ∧ Fld Z h rv oC1 "blocks" oC5 (.ref il) ∧ Fld Z h rv oC1 "sorted" "Z" (.int 1) ∧ Exa Z h il oC3 ∧ Fld Z h il oC3 "indices" "[I" (.ref ix) ∧ Fld Z h il oC3 "size" "I" (.int kz) ∧ own_Arf Z h ix .int (16 : Int32) (fun i => .int (fi i)) ∧ own_Arf Z h wd .long (nb * (16 : Int32)) (fun i => .long (fw i)) ∧ own_Arf Z h hd .boolean nb (fun i => .int (fh i)) ∧ own_Arf Z h fa .int n (fun i => .int (fF0 i)) ∧ own_Arf Z h ea .int n (fun i => .int ((own_EEf M) i)) ∧ fa ≠ ea ∧ ix ≠ fa ∧ ix ≠ ea ∧ own_BS M kz fi ∧ (∀ r ∈ M, own_in r n) ∧ n0 ≤ r0 ∧ n0 ≤ rv ∧ n0 ≤ wd ∧ n0 ≤ hd ∧ n0 ≤ il ∧ n0 ≤ ix ∧ n0 ≤ fa ∧ n0 ≤ ea ∧ n0 ≤ ob ∧ r0 ∉ Da ∧ r0 ∉ Db ∧ rv ∉ Da ∧ rv ∉ Db ∧ wd ∉ Da ∧ wd ∉ Db ∧ hd ∉ Da ∧ hd ∉ Db ∧ il ∉ Da ∧ il ∉ Db ∧ ix ∉ Da ∧ ix ∉ Db ∧ fa ∉ Da ∧ fa ∉ Db ∧ ea ∉ Da ∧ ea ∉ Db ∧ ob ∉ Da ∧ ob ∉ Db ∧ (∀ x ∈ Da, x ∉ Db) ∧ own_nn n nb
def own_AMx (Z : State) (h : Heap) (n0 : Nat) (r0 : Addr) (n : Int32) (M : List Int32) : Prop := (own_AMf Z h n0 r0 n [] [] ∧ M = []) ∨ own_AMu Z h n0 r0 n M
def own_AMr (Z : State) (h : Heap) (n0 : Nat) (r0 : Addr) (n : Int32) (E : Nat → Int32) : Prop := Exa Z h r0 oC0 ∧ ((Fld Z h r0 oC0 "end" "[I" .null ∧ E = fun _ => 0) ∨ ∃ ea : Addr, Fld Z h r0 oC0 "end" "[I" (.ref ea) ∧ own_Arf Z h ea .int n (fun i => .int (E i)))
theorem own_f2r {Z : State} {h : Heap} {n0 : Nat} {r0 : Addr} {n : Int32} {La Lb : List Int32} (H : own_AMf Z h n0 r0 n La Lb) : own_AMr Z h n0 r0 n (fun _ => (0 : Int32)) := by
  obtain ⟨ob, rv, dl, vS, vM, v0, v1, Da, Db, wd, hd, il, ix, nb, fi, E_r0_0, F_receivers_r0_0, F_outboxes_r0_0, F_recipients_r0_0, F_delivered_r0_0, F_senders_r0_0, F_messages_r0_0, F_first_r0_0, F_end_r0_0, O_ob_0, B_0_0, B_1_0, E_rv_0, F_words_rv_0, F_held_rv_0, F_blocks_rv_0, F_sorted_rv_0, E_il_0, F_indices_il_0, F_size_il_0, A_ix_0, A_wd_0, A_hd_0, ge_r0, ge_rv, ge_wd, ge_hd, ge_il, ge_ix, ge_ob, nb_r0_0, nb_r0_1, nb_rv_0, nb_rv_1, nb_wd_0, nb_wd_1, nb_hd_0, nb_hd_1, nb_il_0, nb_il_1, nb_ix_0, nb_ix_1, nb_ob_0, nb_ob_1, hdj, hn⟩ := H
  exact ⟨E_r0_0, Or.inl ⟨F_end_r0_0, rfl⟩⟩
theorem own_x2r {Z : State} {h : Heap} {n0 : Nat} {r0 : Addr} {n : Int32} {M : List Int32} (H : own_AMx Z h n0 r0 n M) : own_AMr Z h n0 r0 n (own_EEf M) := by
  rcases H with ⟨H, rfl⟩ | H
  · exact own_f2r H
  · obtain ⟨ob, rv, dl, vS, vM, fa, ea, v0, v1, Da, Db, wd, hd, il, ix, nb, fi, kz, fw, fh, fF0, E_r0_0, F_receivers_r0_0, F_outboxes_r0_0, F_recipients_r0_0, F_delivered_r0_0, F_senders_r0_0, F_messages_r0_0, F_first_r0_0, F_end_r0_0, O_ob_0, B_0_0, B_1_0, E_rv_0, F_words_rv_0, F_held_rv_0, F_blocks_rv_0, F_sorted_rv_0, E_il_0, F_indices_il_0, F_size_il_0, A_ix_0, A_wd_0, A_hd_0, A_fa_0, A_ea_0, ne_fa_ea, ne_ix_fa, ne_ix_ea, hBS, hm, ge_r0, ge_rv, ge_wd, ge_hd, ge_il, ge_ix, ge_fa, ge_ea, ge_ob, nb_r0_0, nb_r0_1, nb_rv_0, nb_rv_1, nb_wd_0, nb_wd_1, nb_hd_0, nb_hd_1, nb_il_0, nb_il_1, nb_ix_0, nb_ix_1, nb_fa_0, nb_fa_1, nb_ea_0, nb_ea_1, nb_ob_0, nb_ob_1, hdj, hn⟩ := H
    exact ⟨E_r0_0, Or.inr ⟨ea, F_end_r0_0, A_ea_0⟩⟩
theorem own_exf {Z : State} {h : Heap} {n0 : Nat} {r0 : Addr} {n : Int32} {La Lb : List Int32} (H : own_AMf Z h n0 r0 n La Lb) : Exa Z h r0 oC0 := (own_f2r H).1
theorem own_exx {Z : State} {h : Heap} {n0 : Nat} {r0 : Addr} {n : Int32} {M : List Int32} (H : own_AMx Z h n0 r0 n M) : Exa Z h r0 oC0 := (own_x2r H).1
theorem own_exr {Z : State} {h : Heap} {n0 : Nat} {r0 : Addr} {n : Int32} {E : Nat → Int32} (H : own_AMr Z h n0 r0 n E) : Exa Z h r0 oC0 := H.1
theorem d1_0 : oQ oD28 0 (.lload_n 0) 1 := by decide +kernel
theorem d1_1 : oQ oD28 1 (.bipush 16) 2 := by decide +kernel
theorem d1_3 : oQ oD28 3 (.iload_n 2) 1 := by decide +kernel
theorem d1_4 : oQ oD28 4 .imul 1 := by decide +kernel
theorem d1_5 : oQ oD28 5 .lushr 1 := by decide +kernel
theorem d1_6 : oQ oD28 6 (.ldc2_w 7) 3 := by decide +kernel
theorem d1_9 : oQ oD28 9 .land 1 := by decide +kernel
theorem d1_10 : oQ oD28 10 .l2i 1 := by decide +kernel
theorem d1_11 : oQ oD28 11 (.iload_n 3) 1 := by decide +kernel
theorem d1_12 : oQ oD28 12 .irem 1 := by decide +kernel
theorem d1_13 : oQ oD28 13 .ireturn 1 := by decide +kernel
theorem pn_1 : plainName oC7 = true := by first | (simp [plainName, overriddenIn]; done) | decide +kernel
theorem ef_1 (m : MethodId) (q0 : Int64) (p1 : Int32) (p2 : Int32) : entryFrame m #[(.long q0), (.int p1), (.int p2)] 4 = mkF m 0 #[oJ q0, oS, oI p1, oI p2] [] := by first | (simp [entryFrame, mkF, argsToLocals, Value.category]; done) | rfl
def rm1_room : Room := { frames := 0, cells := 0, slots := 0, locals := 0 }
def own_f1 (q0 : Int64) (p1 : Int32) (p2 : Int32) : Int32 := ((((own_lushr q0 ((16 : Int32) * p1)) &&& (65535 : Int64)).toInt32) % p2)
def Qrm1 (Z : State) (q0 : Int64) (p1 : Int32) (p2 : Int32) (h0 : Heap) (n0 : Nat) (v : Option Value) (h : Heap) (L : List Loc) : Prop := v = some (.int (own_f1 q0 p1 p2)) ∧ Fr n0 L ∧ h = h0
theorem own_lf_own_f1_1 {q0 : Int64} {p1 : Int32} {p2 : Int32} : (some (.int ((((own_lushr q0 ((16 : Int32) * p1)) &&& (65535 : Int64)).toInt32) % p2)) : Option Value) = some (.int (own_f1 q0 p1 p2)) := by
  first | rfl | (simp only [own_f1]; done) | (simp only [own_f1]; rfl)
set_option maxRecDepth 65536 in
set_option maxHeartbeats 40000000 in
theorem rm1 (l : Launch) (Z : State) (a0 : Array Value) (hw : oH Z a0) (ws : List Jvm.Cond) (q0 : Int64) (p1 : Int32) (p2 : Int32) (h0 : Heap) (n0 : Nat) (Z0 : n0 ≤ h0.size) (hz : p2 ≠ 0) :
    MetFree l oM28 (head1 (Jvm.Cond.code oM28 method_2_code 4 (some .int) :: ws) rm1_room) (fun a U => a = #[(.long q0), (.int p1), (.int p2)] ∧ Z.Warmed39 U.vm ∧ U.heap = h0) (fun _ _ _ _ _ => True) (fun _ U o U' => ∃ v L, o = .returned v ∧ Qrm1 Z q0 p1 p2 h0 n0 v U'.heap L ∧ FrameEnd U o U' L rm1_room.cells rm1_room.slots) := by
 refine MetFree.of_bodySF (plainFor_of_name pn_1) hisR ?_
 intro p e s m args below meth c s₁ Bd hml0 hP hK
 obtain ⟨rfl, hZ, hh⟩ := hP
 have hx := Bd.exec
 have hby := Bd.bytes
 have hml : c.maxLocals = 4 := hml0
 have hown : s.vm.findClass oC7 = some m.cls := findClass_of_methodNamed Bd.named
 have hnm := (name_of_methodNamed Bd.named Bd.method).1
 have hlk : meth.locks = false := BodyLoose.notSynchronized Bd
 have X0 : Stand p l e rm1_room s m #[(.long q0), (.int p1), (.int p2)] below meth c s₁ [] 0 0 := Stand.of_body Bd
 have e0 : s₁.heap = h0 := by rw [← hh, Bd.state]; rfl
 have N0 := Fr.nil n0
 show own_Fin p.tables e below s (Qrm1 Z q0 p1 p2 h0 n0) rm1_room.cells rm1_room.slots (s₁.setTop (entryFrame m #[(.long q0), (.int p1), (.int p2)] 4))
 rw [ef_1]
 show oF (s₁.setTop (mkF m 0 #[oJ q0, oS, oI p1, oI p2] []))
 refine own_go (fun _ k => XS.lloadN X0.here hx rfl (hb hby d1_0) rfl (XS.bipush X0.here hx rfl (hb hby d1_1) (XS.iloadN X0.here hx rfl (hb hby d1_3) rfl (XS.imul X0.here hx rfl (hb hby d1_4) rfl (XS.lushr X0.here hx rfl (hb hby d1_5) rfl k))))) ?_
 show oF (s₁.setTop (mkF m 6 #[oJ q0, oS, oI p1, oI p2] [(.long (own_lushr q0 ((16 : Int32) * p1)))]))
 refine own_go (fun _ k => X0.ldc2Long hx hown (mvT hZ (oW hw 5 rfl)) (g := (mkF m 6 #[oJ q0, oS, oI p1, oI p2] [(.long (own_lushr q0 ((16 : Int32) * p1)))])) rfl (hb hby d1_6) _ k) ?_
 refine own_go (fun _ k => XS.land X0.here hx rfl (hb hby d1_9) rfl (XS.l2i X0.here hx rfl (hb hby d1_10) rfl k)) ?_
 show oF (s₁.setTop (mkF m 11 #[oJ q0, oS, oI p1, oI p2] [(.int (((own_lushr q0 ((16 : Int32) * p1)) &&& (65535 : Int64)).toInt32))]))
 refine own_go (fun _ k => XS.iloadN X0.here hx rfl (hb hby d1_11) rfl (own_irem X0.here hx rfl (hb hby d1_12) rfl hz k)) ?_
 refine own_ret X0 hx hlk Bd.returns rfl (Or.inl ⟨rfl, by simp, _, rfl⟩) (hb hby d1_13) (Nat.le_of_ble_eq_true rfl) (Nat.le_of_ble_eq_true rfl) ?_
 refine ⟨(own_lf_own_f1_1 (q0 := q0) (p1 := p1) (p2 := p2)), N0, e0⟩
theorem d25_0 : oQ oD29 0 (.iload_n 0) 1 := by decide +kernel
theorem d25_1 : oQ oD29 1 (.ifCond .eq 11) 3 := by decide +kernel
theorem d25_4 : oQ oD29 4 (.iload_n 1) 1 := by decide +kernel
theorem d25_5 : oQ oD29 5 (.ifCond .eq 7) 3 := by decide +kernel
theorem d25_8 : oQ oD29 8 (.iconst 1) 1 := by decide +kernel
theorem d25_9 : oQ oD29 9 (.goto 4) 3 := by decide +kernel
theorem d25_12 : oQ oD29 12 (.iconst 0) 1 := by decide +kernel
theorem d25_13 : oQ oD29 13 .ireturn 1 := by decide +kernel
theorem pn_25 : plainName oC7 = true := by first | (simp [plainName, overriddenIn]; done) | decide +kernel
theorem ef_25 (m : MethodId) (p0 : Int32) (p1 : Int32) : entryFrame m #[(.int p0), (.int p1)] 2 = mkF m 0 #[oI p0, oI p1] [] := by first | (simp [entryFrame, mkF, argsToLocals, Value.category]; done) | rfl
def own_rm25_room : Room := { frames := 0, cells := 0, slots := 0, locals := 0 }
def own_f25 (p0 : Int32) (p1 : Int32) : Int32 := (if p0 = (0 : Int32) then ((0 : Int32)) else ((if p1 = (0 : Int32) then ((0 : Int32)) else ((1 : Int32)))))
theorem own_lf_own_f25_1 {p0 : Int32} {p1 : Int32} (hc1 : p0 = (0 : Int32)) : (some (.int 0) : Option Value) = some (.int (own_f25 p0 p1)) := by
  first | (simp only [own_f25, if_pos hc1]; done) | (simp only [own_f25, if_pos hc1]; rfl) | rfl
theorem own_lf_own_f25_2 {p0 : Int32} {p1 : Int32} (hc1 : ¬ (p0 = (0 : Int32))) (hc2 : p1 = (0 : Int32)) : (some (.int 0) : Option Value) = some (.int (own_f25 p0 p1)) := by
  first | (simp only [own_f25, if_neg hc1, if_pos hc2]; done) | (simp only [own_f25, if_neg hc1, if_pos hc2]; rfl) | rfl
theorem own_lf_own_f25_3 {p0 : Int32} {p1 : Int32} (hc1 : ¬ (p0 = (0 : Int32))) (hc2 : ¬ (p1 = (0 : Int32))) : (some (.int 1) : Option Value) = some (.int (own_f25 p0 p1)) := by
  first | (simp only [own_f25, if_neg hc1, if_neg hc2]; done) | (simp only [own_f25, if_neg hc1, if_neg hc2]; rfl) | rfl
set_option maxRecDepth 65536 in
set_option maxHeartbeats 40000000 in
theorem rm25 (l : Launch) (Z : State) (a0 : Array Value) (hw : oH Z a0) (ws : List Jvm.Cond) (p0 : Int32) (p1 : Int32) (h0 : Heap) (n0 : Nat) (Z0 : n0 ≤ h0.size) :
    MetFree l oM29 (head1 (Jvm.Cond.code oM29 method_3_code 2 (some .int) :: ws) own_rm25_room) (fun a U => a = #[(.int p0), (.int p1)] ∧ Z.Warmed39 U.vm ∧ U.heap = h0) (fun _ _ _ _ _ => True) (fun _ U o U' => ∃ v L, o = .returned v ∧ own_QP (some (.int (own_f25 p0 p1))) h0 n0 v U'.heap L ∧ FrameEnd U o U' L own_rm25_room.cells own_rm25_room.slots) := by
 refine MetFree.of_bodySF (plainFor_of_name pn_25) hisR ?_
 intro p e s m args below meth c s₁ Bd hml0 hP hK
 obtain ⟨rfl, hZ, hh⟩ := hP
 have hx := Bd.exec
 have hby := Bd.bytes
 have hml : c.maxLocals = 2 := hml0
 have hown : s.vm.findClass oC7 = some m.cls := findClass_of_methodNamed Bd.named
 have hnm := (name_of_methodNamed Bd.named Bd.method).1
 have hlk : meth.locks = false := BodyLoose.notSynchronized Bd
 have X0 : Stand p l e own_rm25_room s m #[(.int p0), (.int p1)] below meth c s₁ [] 0 0 := Stand.of_body Bd
 have e0 : s₁.heap = h0 := by rw [← hh, Bd.state]; rfl
 have N0 := Fr.nil n0
 show own_Fin p.tables e below s (own_QP (some (.int (own_f25 p0 p1))) h0 n0) own_rm25_room.cells own_rm25_room.slots (s₁.setTop (entryFrame m #[(.int p0), (.int p1)] 2))
 rw [ef_25]
 show oF (s₁.setTop (mkF m 0 #[oI p0, oI p1] []))
 refine own_go (fun _ k => XS.iloadN X0.here hx rfl (hb hby d25_0) rfl k) ?_
 by_cases hc1 : p0 = (0 : Int32)
 ·refine own_go (fun _ k => XS.ifYes X0.here hx rfl (pc0 := 1) (pc' := 12) rfl (hb hby d25_1) rfl ((if0 _ _).trans (teq hc1).1) (by decide) (by decide) (XS.iconst X0.here hx rfl (hb hby d25_12) k)) ?_
  refine own_ret X0 hx hlk Bd.returns rfl (Or.inl ⟨rfl, by simp, _, rfl⟩) (hb hby d25_13) (Nat.le_of_ble_eq_true rfl) (Nat.le_of_ble_eq_true rfl) ?_
  exact ⟨(own_lf_own_f25_1 (p0 := p0) (p1 := p1) hc1), N0, e0⟩
 ·refine own_go (fun _ k => XS.ifNo X0.here hx rfl (hb hby d25_1) rfl ((if0 _ _).trans (feq hc1).1) (XS.iloadN X0.here hx rfl (hb hby d25_4) rfl k)) ?_
  by_cases hc2 : p1 = (0 : Int32)
  ·refine own_go (fun _ k => XS.ifYes X0.here hx rfl (pc0 := 5) (pc' := 12) rfl (hb hby d25_5) rfl ((if0 _ _).trans (teq hc2).1) (by decide) (by decide) (XS.iconst X0.here hx rfl (hb hby d25_12) k)) ?_
   refine own_ret X0 hx hlk Bd.returns rfl (Or.inl ⟨rfl, by simp, _, rfl⟩) (hb hby d25_13) (Nat.le_of_ble_eq_true rfl) (Nat.le_of_ble_eq_true rfl) ?_
   exact ⟨(own_lf_own_f25_2 (p0 := p0) (p1 := p1) hc1 hc2), N0, e0⟩
  ·refine own_go (fun _ k => XS.ifNo X0.here hx rfl (hb hby d25_5) rfl ((if0 _ _).trans (feq hc2).1) (XS.iconst X0.here hx rfl (hb hby d25_8) (XS.goto X0.here hx rfl (pc0 := 9) (pc' := 13) rfl (hb hby d25_9) (by decide) (by decide) k))) ?_
   refine own_ret X0 hx hlk Bd.returns rfl (Or.inl ⟨rfl, by simp, _, rfl⟩) (hb hby d25_13) (Nat.le_of_ble_eq_true rfl) (Nat.le_of_ble_eq_true rfl) ?_
   exact ⟨(own_lf_own_f25_3 (p0 := p0) (p1 := p1) hc1 hc2), N0, e0⟩
/-! the law's own facts -/
def own_J (n : Int32) (k : Nat) (L0 L1 : List Int32) : Prop := L0.length + L1.length ≤ k ∧ ∀ r ∈ L0 ++ L1, own_in r n
theorem own_J0 (n : Int32) : own_J n 0 [] [] := ⟨Nat.le_refl _, fun r hr => absurd hr List.not_mem_nil⟩
theorem own_Jw {n : Int32} {k : Nat} {L0 L1 : List Int32} (h : own_J n k L0 L1) : own_J n (k + 1) L0 L1 := ⟨Nat.le_succ_of_le h.1, h.2⟩
theorem own_Jp {n r b : Int32} {k : Nat} {L0 L1 : List Int32} (h : own_J n k L0 L1) (hr : own_in r n) : own_J n (k + 1) (own_psh b (0 : Int32) L0 r) (own_psh b (1 : Int32) L1 r) := by
  obtain ⟨h1, h2⟩ := h
  unfold own_psh
  by_cases e0 : b = 0
  · have e1 : ¬ b = 1 := by rw [e0]; decide
    rw [if_pos e0, if_neg e1]
    refine ⟨by rw [List.length_append, List.length_singleton]; omega, fun x hx => ?_⟩
    simp only [List.mem_append, List.mem_singleton] at hx
    rcases hx with (hx | rfl) | hx
    · exact h2 x (List.mem_append_left _ hx)
    · exact hr
    · exact h2 x (List.mem_append_right _ hx)
  · rw [if_neg e0]
    by_cases e1 : b = 1
    · rw [if_pos e1]
      refine ⟨by rw [List.length_append, List.length_singleton]; omega, fun x hx => ?_⟩
      simp only [List.mem_append, List.mem_singleton] at hx
      rcases hx with hx | hx | rfl
      · exact h2 x (List.mem_append_left _ hx)
      · exact h2 x (List.mem_append_right _ hx)
      · exact hr
    · rw [if_neg e1]; exact ⟨by omega, h2⟩
theorem own_Ji {n : Int32} {k : Nat} {A A' B B' : List Int32} {c : Prop} [Decidable c] (h : own_J n k A A') (h' : own_J n k B B') : own_J n k (if c then A else B) (if c then A' else B') := by
  split
  · exact h
  · exact h'
theorem own_ii {a b n : Int32} {c : Prop} [Decidable c] (h : own_in a n) (h' : own_in b n) : own_in (if c then a else b) n := by
  split
  · exact h
  · exact h'
theorem own_an (x : Int32) (m : Nat) (y : Int32) (hm : m ≤ 31) (hb : y.toBitVec.toNat = 2 ^ m - 1) : 0 ≤ (x &&& y).toInt ∧ (x &&& y).toInt ≤ 2 ^ m - 1 := by
  have e : (x &&& y).toBitVec.toNat ≤ 2 ^ m - 1 := by
    show (x.toBitVec &&& y.toBitVec).toNat ≤ _
    rw [BitVec.toNat_and, hb]; exact Nat.and_le_right
  have hp : (2 : Nat) ^ m ≤ 2 ^ 31 := Nat.pow_le_pow_right (by decide) hm
  have hp1 : 0 < (2 : Nat) ^ m := Nat.two_pow_pos m
  have e2 : (x &&& y).toInt = ((x &&& y).toBitVec.toNat : Int) := by
    show (x &&& y).toBitVec.toInt = _
    rw [BitVec.toInt_eq_toNat_cond, if_pos (by omega)]
  have e3 : ((2 : Int) ^ m) = ((2 ^ m : Nat) : Int) := by simp
  rw [e2, e3]; omega
theorem own_rem {x n : Int32} (hx : 0 ≤ x.toInt) (hp : 0 < n.toInt) : 0 ≤ (x % n).toInt ∧ (x % n).toInt < n.toInt := by
  rw [Int32.toInt_mod]
  exact ⟨Int.tmod_nonneg n.toInt hx, Int.tmod_lt_of_pos x.toInt hp⟩
theorem own_nn1 (x : Int32) : own_nn ((1 : Int32) + ((x &&& (2147483647 : Int32)) % (3072 : Int32))) (own_f4 ((1 : Int32) + ((x &&& (2147483647 : Int32)) % (3072 : Int32)))) := by
  have q := own_rem (n := 3072) (own_an x 31 2147483647 (by decide) (by decide)).1 (by decide)
  exact own_bC q.1 q.2
theorem own_npos {n nb : Int32} (hn : own_nn n nb) : 0 < n.toInt ∧ n ≠ 0 := by
  obtain ⟨a, m, rfl, -, h1, h2, -, h4, -⟩ := hn
  have e := (own_no (k := a) (by omega)).1
  exact ⟨by omega, fun q => by have := congrArg Int32.toInt q; rw [e] at this; simp at this; omega⟩
theorem own_inr {x n nb : Int32} (hn : own_nn n nb) (hx : 0 ≤ x.toInt) : own_in (x % n) n := by
  have q := own_rem hx (own_npos hn).1
  have k0 : (0 : Int32).toInt = 0 := by decide
  exact ⟨by rw [Int32.lt_iff_toInt_lt, k0]; omega, by rw [Int32.lt_iff_toInt_lt]; exact q.2⟩
theorem own_us (x k : Int32) (j : Nat) (hk : ((k &&& 31).toUInt32.toBitVec.toNat) % 32 = j) (hj : 0 < j) : 0 ≤ (own_iushr x k).toInt := by
  show 0 ≤ (own_iushr x k).toBitVec.toInt
  have e : (own_iushr x k).toBitVec = x.toBitVec >>> j := by
    show (x.toUInt32 >>> (k &&& 31).toUInt32).toBitVec = _
    rw [UInt32.toBitVec_shiftRight]
    show x.toBitVec >>> ((k &&& 31).toUInt32.toBitVec % 32#32) = _
    have e1 : ((k &&& 31).toUInt32.toBitVec % 32#32).toNat = j := by rw [BitVec.toNat_umod]; exact hk
    rw [BitVec.ushiftRight_eq', e1]
  rw [e, BitVec.toInt_eq_toNat_cond, if_pos]
  · omega
  · rw [BitVec.toNat_ushiftRight, Nat.shiftRight_eq_div_pow]
    have : x.toBitVec.toNat < 2 ^ 32 := x.toBitVec.isLt
    have h2 : 2 ≤ 2 ^ j := Nat.le_trans (by decide) (Nat.pow_le_pow_right (by decide) hj)
    have : x.toBitVec.toNat / 2 ^ j ≤ x.toBitVec.toNat / 2 := Nat.div_le_div_left h2 (by decide)
    omega
theorem own_rcv {n nb : Int32} (hn : own_nn n nb) (q : Int64) (i : Int32) : own_in (own_f1 q i n) n := by
  refine own_inr hn ?_
  show 0 ≤ ((own_lushr q _) &&& (65535 : Int64)).toInt32.toBitVec.toInt
  generalize own_lushr q _ = x
  have e : (x &&& (65535 : Int64)).toInt32.toBitVec.toNat ≤ 65535 := by
    rw [Int64.toBitVec_toInt32, BitVec.signExtend_eq_setWidth_of_le _ (by decide), BitVec.toNat_setWidth]
    refine Nat.le_trans (Nat.mod_le _ _) ?_
    show (x.toBitVec &&& (65535 : Int64).toBitVec).toNat ≤ _
    rw [BitVec.toNat_and, show (65535 : Int64).toBitVec.toNat = 65535 from by decide]; exact Nat.and_le_right
  rw [BitVec.toInt_eq_toNat_cond, if_pos (by omega)]; omega
theorem own_b01 (x : Int32) : (x &&& (1 : Int32)) = 0 ∨ (x &&& (1 : Int32)) = 1 := by
  obtain ⟨h1, h2⟩ := own_an x 1 1 (by decide) (by decide)
  have e : (x &&& (1 : Int32)) = Int32.ofInt (x &&& (1 : Int32)).toInt := (Int32.ofInt_toInt _).symm
  rw [e]
  generalize (x &&& (1 : Int32)).toInt = z at *
  have : z = 0 ∨ z = 1 := by omega
  rcases this with rfl | rfl
  · exact Or.inl (by decide)
  · exact Or.inr (by decide)

theorem own_pd634 : parseMethodDescriptor "(Lcom/example/lockstep/lockstep/engine/AddressedMessages;)V" = some ⟨[(.object oC0)], none⟩ := by decide +kernel
theorem own_pd635 : parseMethodDescriptor "(IIJ)V" = some ⟨[.int, .int, .long], none⟩ := by decide +kernel
theorem d8_0 : oQ oD30 0 (.aload_n 0) 1 := by decide +kernel
theorem d8_1 : oQ oD30 1 (.getfield 21) 3 := by decide +kernel
theorem d8_4 : oQ oD30 4 (.iload_n 1) 1 := by decide +kernel
theorem d8_5 : oQ oD30 5 .aaload 1 := by decide +kernel
theorem d8_6 : oQ oD30 6 (.astore 6) 2 := by decide +kernel
theorem d8_8 : oQ oD30 8 (.aload 6) 2 := by decide +kernel
theorem d8_10 : oQ oD30 10 (.ifnonnull 21) 3 := by decide +kernel
theorem d8_13 : oQ oD30 13 (.new 19) 3 := by decide +kernel
theorem d8_16 : oQ oD30 16 .dup 1 := by decide +kernel
theorem d8_17 : oQ oD30 17 (.aload_n 0) 1 := by decide +kernel
theorem d8_18 : oQ oD30 18 (.invokespecial 40) 3 := by decide +kernel
theorem d8_21 : oQ oD30 21 (.astore 6) 2 := by decide +kernel
theorem d8_23 : oQ oD30 23 (.aload_n 0) 1 := by decide +kernel
theorem d8_24 : oQ oD30 24 (.getfield 21) 3 := by decide +kernel
theorem d8_27 : oQ oD30 27 (.iload_n 1) 1 := by decide +kernel
theorem d8_28 : oQ oD30 28 (.aload 6) 2 := by decide +kernel
theorem d8_30 : oQ oD30 30 .aastore 1 := by decide +kernel
theorem d8_31 : oQ oD30 31 (.aload 6) 2 := by decide +kernel
theorem d8_33 : oQ oD30 33 (.iload_n 2) 1 := by decide +kernel
theorem d8_34 : oQ oD30 34 (.iload_n 3) 1 := by decide +kernel
theorem d8_35 : oQ oD30 35 (.lload 4) 2 := by decide +kernel
theorem d8_37 : oQ oD30 37 (.invokevirtual 43) 3 := by decide +kernel
theorem d8_40 : oQ oD30 40 .return_ 1 := by decide +kernel
theorem pn_8 : plainName oC0 = true := by first | (simp [plainName, overriddenIn]; done) | decide +kernel
theorem ef_8 (m : MethodId) (r0 : Addr) (p1 : Int32) (p2 : Int32) (p3 : Int32) (q4 : Int64) : entryFrame m #[(.ref r0), (.int p1), (.int p2), (.int p3), (.long q4)] 7 = mkF m 0 #[oR r0, oI p1, oI p2, oI p3, oJ q4, oS, oU] [] := by first | (simp [entryFrame, mkF, argsToLocals, Value.category]; done) | rfl
def rm8_room : Room := { frames := 2, cells := 4, slots := 53, locals := 26 }
def Qrm8 (Z : State) (r0 : Addr) (p1 : Int32) (p2 : Int32) (p3 : Int32) (q4 : Int64) (ob : Addr) (v0 : Value) (v1 : Value) (Da : List Addr) (Db : List Addr) (La : List Int32) (Lb : List Int32) (h0 : Heap) (n0 : Nat) (v : Option Value) (h : Heap) (L : List Loc) : Prop := ∃ w0 : Value, ∃ w1 : Value, ∃ C0 : List Addr, ∃ C1 : List Addr, v = none ∧ Fr n0 L ∧ Keep h0 h (ob :: (Da ++ Db)) ∧ own_Oa Z h ob oC2 w0 w1 ∧ own_Box Z h n0 w0 C0 (own_psh p1 (0 : Int32) La p3) ∧ own_Box Z h n0 w1 C1 (own_psh p1 (1 : Int32) Lb p3) ∧ (∀ x ∈ C0, x ∈ Da ∨ h0.size ≤ x) ∧ (∀ x ∈ C1, x ∈ Db ∨ h0.size ≤ x) ∧ (∀ x ∈ C0, x ∉ C1)
set_option maxRecDepth 65536 in
set_option maxHeartbeats 40000000 in
theorem rm8 (l : Launch) (Z : State) (a0 : Array Value) (hw : oH Z a0) (ws : List Jvm.Cond) (r0 : Addr) (p1 : Int32) (p2 : Int32) (p3 : Int32) (q4 : Int64) (ob : Addr) (v0 : Value) (v1 : Value) (Da : List Addr) (Db : List Addr) (La : List Int32) (Lb : List Int32) (h0 : Heap) (n0 : Nat) (Z0 : n0 ≤ h0.size) (E_r0_0 : Exa Z h0 r0 oC0) (F_outboxes_r0_0 : Fld Z h0 r0 oC0 "outboxes" oC4 (.ref ob)) (O_ob_0 : own_Oa Z h0 ob oC2 v0 v1) (B_0_0 : own_Box Z h0 n0 v0 Da La) (B_1_0 : own_Box Z h0 n0 v1 Db Lb) (ge_ob : n0 ≤ ob) (nb_ob_0 : ob ∉ Da) (nb_ob_1 : ob ∉ Db) (hdj : ∀ x ∈ Da, x ∉ Db) (hbb : p1 = 0 ∨ p1 = 1) (hl : La.length + Lb.length ≤ 3) :
    MetFree l oM30 (head1 (Jvm.Cond.code oM30 prog_18_method_2_code 7 none :: ws) rm8_room) (fun a U => a = #[(.ref r0), (.int p1), (.int p2), (.int p3), (.long q4)] ∧ Z.Warmed39 U.vm ∧ U.heap = h0) (fun _ _ _ _ _ => True) (fun _ U o U' => ∃ v L, o = .returned v ∧ Qrm8 Z r0 p1 p2 p3 q4 ob v0 v1 Da Db La Lb h0 n0 v U'.heap L ∧ FrameEnd U o U' L rm8_room.cells rm8_room.slots) := by
 refine MetFree.of_bodySF (plainFor_of_name pn_8) hisR ?_
 intro p e s m args below meth c s₁ Bd hml0 hP hK
 obtain ⟨rfl, hZ, hh⟩ := hP
 have hx := Bd.exec
 have hby := Bd.bytes
 have hml : c.maxLocals = 7 := hml0
 have hown : s.vm.findClass oC0 = some m.cls := findClass_of_methodNamed Bd.named
 have hnm := (name_of_methodNamed Bd.named Bd.method).1
 have hlk : meth.locks = false := BodyLoose.notSynchronized Bd
 have X0 : Stand p l e rm8_room s m #[(.ref r0), (.int p1), (.int p2), (.int p3), (.long q4)] below meth c s₁ [] 0 0 := Stand.of_body Bd
 have e0 : s₁.heap = h0 := by rw [← hh, Bd.state]; rfl
 have N0 := Fr.nil n0
 show own_Fin p.tables e below s (Qrm8 Z r0 p1 p2 p3 q4 ob v0 v1 Da Db La Lb h0 n0) rm8_room.cells rm8_room.slots (s₁.setTop (entryFrame m #[(.ref r0), (.int p1), (.int p2), (.int p3), (.long q4)] 7))
 rw [ef_8]
 show oF (s₁.setTop (mkF m 0 #[oR r0, oI p1, oI p2, oI p3, oJ q4, oS, oU] []))
 have K0 := Keep.refl h0 (ob :: (Da ++ Db))
 have hdk : ∀ x ∈ Db, x ∉ Da := fun x h1 h0 => hdj x h0 h1
 by_cases hs1 : p1 = (0 : Int32)
 ·try rw [hs1]
  show oF (s₁.setTop (mkF m 0 #[oR r0, oI 0, oI p2, oI p3, oJ q4, oS, oU] []))
  refine own_go (fun _ k => XS.aloadN X0.here hx rfl (hb hby d8_0) rfl rfl k) ?_
  obtain ⟨T2, X2, e2, st2⟩ := getF X0 hx hZ hown (host := "") (Or.inl (oW hw 29 rfl)) Via.refl e0 F_outboxes_r0_0 (g := (mkF m 1 #[oR r0, oI 0, oI p2, oI p3, oJ q4, oS, oU] [(.ref r0)])) rfl rfl (hb hby d8_1)
  refine own_go (fun tg k => st2 tg k) ?_
  refine own_go (fun _ k => XS.iloadN X2.here hx rfl (hb hby d8_4) rfl k) ?_
  refine own_go (fun tg k => own_oald X2 hx hZ e2 O_ob_0 (v := v0) (Or.inl ⟨rfl, rfl⟩) (g := (mkF m 5 #[oR r0, oI 0, oI p2, oI p3, oJ q4, oS, oU] [(.int 0), (.ref ob)])) rfl rfl (hb hby d8_5) tg k) ?_
  show oF (T2.setTop (mkF m 6 #[oR r0, oI 0, oI p2, oI p3, oJ q4, oS, oU] [v0]))
  obtain ⟨hl3, ⟨hv3, hD3, hL3⟩ | ⟨xa3, xb3, xc3, xd3, q13, gg3, q33, hv3, hD3, hB3, hg3⟩⟩ := id B_0_0
  ·refine own_vr hv3 ?_
   show oF (T2.setTop (mkF m 6 #[oR r0, oI 0, oI p2, oI p3, oJ q4, oS, oU] [.null]))
   refine own_go (fun _ k => XS.astore X2.here hx rfl (hb hby d8_6) rfl rfl (l' := #[oR r0, oI 0, oI p2, oI p3, oJ q4, oS, .val .null]) rfl (XS.aload X2.here hx rfl (hb hby d8_8) rfl rfl (XS.ifnonnullNo X2.here hx rfl (hb hby d8_10) rfl k))) ?_
   obtain ⟨T4, h4, X4, e4, E4, A4, D4, -, st4⟩ := newO X2 hx hZ hown (oW hw 27 rfl) (oW hw 76 rfl) (oW hw 77 rfl) e2 (g := (mkF m 13 #[oR r0, oI 0, oI p2, oI p3, oJ q4, oS, .val .null] [])) rfl (hb hby d8_13) (by decide) (by decide)
   obtain ⟨b4, g4⟩ : ∃ z, z = h0.size := ⟨_, rfl⟩
   rw [← g4] at A4 D4 st4
   have ne_r0_b4 : r0 ≠ b4 := Nat.ne_of_lt (Nat.lt_of_lt_of_le E_r0_0.lt (Nat.le_of_eq g4.symm))
   have ne_ob_b4 : ob ≠ b4 := Nat.ne_of_lt (Nat.lt_of_lt_of_le O_ob_0.lt (Nat.le_of_eq g4.symm))
   have nb_b4_0 : b4 ∉ Da := B_0_0.nin (Nat.le_of_eq g4.symm)
   have nb_b4_1 : b4 ∉ Db := B_1_0.nin (Nat.le_of_eq g4.symm)
   have ge_b4 : n0 ≤ b4 := Nat.le_trans Z0 (Nat.le_of_eq g4.symm)
   have sz_b4 : h0.size ≤ b4 := Nat.le_trans K0.1 (Nat.le_of_eq g4.symm)
   have E_r0_4 := E_r0_0.ext E4
   have F_outboxes_r0_4 := F_outboxes_r0_0.ext E4
   have O_ob_4 := O_ob_0.ext E4
   have B_0_4 := B_0_0.ext E4
   have B_1_4 := B_1_0.ext E4
   have K4 := K0.ext E4
   have Z4 : n0 ≤ h4.size := Nat.le_trans Z0 E4.1
   have E_b4_4 : Exa Z h4 b4 oC2 := A4
   have F_this_0_b4_4 : Fld Z h4 b4 oC2 "this$0" oC8 .null := D4 (Or.inr (oW hw 82 rfl)) (ty := (.object oC0)) (by decide)
   have F_senders_b4_4 : Fld Z h4 b4 oC2 "senders" "[I" .null := D4 (Or.inl (oW hw 85 rfl)) (ty := (.array .int)) (by decide)
   have F_receivers_b4_4 : Fld Z h4 b4 oC2 "receivers" "[I" .null := D4 (Or.inl (oW hw 87 rfl)) (ty := (.array .int)) (by decide)
   have F_messages_b4_4 : Fld Z h4 b4 oC2 "messages" "[J" .null := D4 (Or.inl (oW hw 89 rfl)) (ty := (.array .long)) (by decide)
   have F_size_b4_4 : Fld Z h4 b4 oC2 "size" "I" (.int 0) := D4 (Or.inl (oW hw 97 rfl)) (ty := .int) (by decide)
   refine own_go (fun tg k => st4 tg k) ?_
   refine own_go (fun _ k => XS.dup X4.here hx rfl (hb hby d8_16) rfl rfl (XS.aloadN X4.here hx rfl (hb hby d8_17) rfl rfl k)) ?_
   have cq := own_specR X4 hx hZ (y := oM26) rfl hown (oW hw 78 rfl) (oW hw 79 rfl) (oW hw 80 rfl) (by decide) (backOf (W := 1) (rm9 l Z a0 hw [] b4 r0 h4 n0 Z4 E_b4_4 F_size_b4_4 F_senders_b4_4 F_receivers_b4_4 F_messages_b4_4 F_this_0_b4_4 ge_b4) hZ (oW hw 80 rfl) (oW hw 77 rfl) (by decide) (by decide)) (g := (mkF m 18 #[oR r0, oI 0, oI p2, oI p3, oJ q4, oS, .val .null] [(.ref r0), (.ref b4), (.ref b4)])) rfl (by rw [hml]; rfl) (a := b4) (argsL := [(.ref r0)]) (rest := [(.ref b4)]) (lenOf own_pd634 rfl) rfl (by show 2 * 0 + _ ≤ _; exact Nat.le_of_eq rfl) (hb hby d8_18) (fun _ _ => ⟨rfl, e4, (by decide : 1 + 3 ≤ _), (by decide : 5 + 48 ≤ _)⟩)
   obtain ⟨_, _, ⟨T5, L5, k5, n5⟩, -, X5, ⟨Lc5, hQ5, l5, y5, z5⟩, st5⟩ := cq
   dsimp only [Pt.U, Pt.locs, Pt.cells, Pt.slots] at X5 l5 y5 z5 st5 hQ5
   replace y5 : 4 = k5 := y5.symm
   replace z5 : 53 = n5 := z5.symm
   subst y5 z5
   obtain ⟨b5b1, b5b2, b5b3, rfl, N5q, Kq5, szq_b5b1, szq_b5b2, szq_b5b3, E_b4_5, F_size_b4_5, F_senders_b4_5, F_receivers_b4_5, F_messages_b4_5, A_b5b1_5, A_b5b2_5, A_b5b3_5, ne_b5b1_b5b2⟩ := hQ5
   have N5 : Fr n0 L5 := by rw [l5]; exact Fr.app N0 N5q
   have ne_r0_b5b1 : r0 ≠ b5b1 := Nat.ne_of_lt (Nat.lt_of_lt_of_le E_r0_4.lt szq_b5b1)
   have ne_ob_b5b1 : ob ≠ b5b1 := Nat.ne_of_lt (Nat.lt_of_lt_of_le O_ob_4.lt szq_b5b1)
   have ne_b4_b5b1 : b4 ≠ b5b1 := Nat.ne_of_lt (Nat.lt_of_lt_of_le E_b4_4.lt szq_b5b1)
   have nb_b5b1_0 : b5b1 ∉ Da := B_0_4.nin szq_b5b1
   have nb_b5b1_1 : b5b1 ∉ Db := B_1_4.nin szq_b5b1
   have ge_b5b1 : n0 ≤ b5b1 := Nat.le_trans Z4 szq_b5b1
   have sz_b5b1 : h0.size ≤ b5b1 := Nat.le_trans K4.1 szq_b5b1
   have ne_r0_b5b2 : r0 ≠ b5b2 := Nat.ne_of_lt (Nat.lt_of_lt_of_le E_r0_4.lt szq_b5b2)
   have ne_ob_b5b2 : ob ≠ b5b2 := Nat.ne_of_lt (Nat.lt_of_lt_of_le O_ob_4.lt szq_b5b2)
   have ne_b4_b5b2 : b4 ≠ b5b2 := Nat.ne_of_lt (Nat.lt_of_lt_of_le E_b4_4.lt szq_b5b2)
   have nb_b5b2_0 : b5b2 ∉ Da := B_0_4.nin szq_b5b2
   have nb_b5b2_1 : b5b2 ∉ Db := B_1_4.nin szq_b5b2
   have ge_b5b2 : n0 ≤ b5b2 := Nat.le_trans Z4 szq_b5b2
   have sz_b5b2 : h0.size ≤ b5b2 := Nat.le_trans K4.1 szq_b5b2
   have ne_r0_b5b3 : r0 ≠ b5b3 := Nat.ne_of_lt (Nat.lt_of_lt_of_le E_r0_4.lt szq_b5b3)
   have ne_ob_b5b3 : ob ≠ b5b3 := Nat.ne_of_lt (Nat.lt_of_lt_of_le O_ob_4.lt szq_b5b3)
   have ne_b4_b5b3 : b4 ≠ b5b3 := Nat.ne_of_lt (Nat.lt_of_lt_of_le E_b4_4.lt szq_b5b3)
   have nb_b5b3_0 : b5b3 ∉ Da := B_0_4.nin szq_b5b3
   have nb_b5b3_1 : b5b3 ∉ Db := B_1_4.nin szq_b5b3
   have ge_b5b3 : n0 ≤ b5b3 := Nat.le_trans Z4 szq_b5b3
   have sz_b5b3 : h0.size ≤ b5b3 := Nat.le_trans K4.1 szq_b5b3
   have E_r0_5 := E_r0_4.keep Kq5
   have F_outboxes_r0_5 := F_outboxes_r0_4.keep Kq5 (ninS ne_r0_b4 nin0)
   have O_ob_5 := O_ob_4.keep Kq5 (ninS ne_ob_b4 nin0)
   have B_0_5 := B_0_4.keep Kq5 (allS nb_b4_0 all0)
   have B_1_5 := B_1_4.keep Kq5 (allS nb_b4_1 all0)
   have K5 := Keep.trans K4 Kq5 (allS (Or.inr sz_b4) all0)
   have Z5 : n0 ≤ T5.heap.size := Nat.le_trans Z4 Kq5.1
   refine own_go (fun tg k => st5.trans k) ?_
   show oF (T5.setTop (mkF m 21 #[oR r0, oI 0, oI p2, oI p3, oJ q4, oS, .val .null] [(.ref b4)]))
   refine own_go (fun _ k => XS.astore X5.here hx rfl (hb hby d8_21) rfl rfl (l' := #[oR r0, oI 0, oI p2, oI p3, oJ q4, oS, oR b4]) rfl (XS.aloadN X5.here hx rfl (hb hby d8_23) rfl rfl k)) ?_
   obtain ⟨T6, X6, e6, st6⟩ := getF X5 hx hZ hown (host := "") (Or.inl (oW hw 29 rfl)) Via.refl rfl F_outboxes_r0_5 (g := (mkF m 24 #[oR r0, oI 0, oI p2, oI p3, oJ q4, oS, oR b4] [(.ref r0)])) rfl rfl (hb hby d8_24)
   refine own_go (fun tg k => st6 tg k) ?_
   refine own_go (fun _ k => XS.iloadN X6.here hx rfl (hb hby d8_27) rfl (XS.aload X6.here hx rfl (hb hby d8_28) rfl rfl k)) ?_
   obtain ⟨T7, h7, X7, e7, W7, O_ob_7, st7⟩ := own_oast X6 hx hZ e6 O_ob_5 E_b4_5 (j := (0 : Int32)) (Or.inl rfl) (g := (mkF m 30 #[oR r0, oI 0, oI p2, oI p3, oJ q4, oS, oR b4] [(.ref b4), (.int 0), (.ref ob)])) rfl rfl (hb hby d8_30)
   replace O_ob_7 : own_Oa Z h7 ob oC2 (.ref b4) v1 := O_ob_7
   have E_r0_7 := E_r0_5.wr W7
   have F_outboxes_r0_7 := F_outboxes_r0_5.other W7 (Or.inl (own_ne_oa E_r0_5 (oW hw 7 rfl) O_ob_5))
   have B_0_7 := B_0_5.other W7 nb_ob_0
   have B_1_7 := B_1_5.other W7 nb_ob_1
   have E_b4_7 := E_b4_5.wr W7
   have F_senders_b4_7 := F_senders_b4_5.other W7 (Or.inl (Ne.symm ne_ob_b4))
   have F_receivers_b4_7 := F_receivers_b4_5.other W7 (Or.inl (Ne.symm ne_ob_b4))
   have F_messages_b4_7 := F_messages_b4_5.other W7 (Or.inl (Ne.symm ne_ob_b4))
   have F_size_b4_7 := F_size_b4_5.other W7 (Or.inl (Ne.symm ne_ob_b4))
   have A_b5b1_7 := A_b5b1_5.other W7 (Ne.symm ne_ob_b5b1)
   have A_b5b2_7 := A_b5b2_5.other W7 (Ne.symm ne_ob_b5b2)
   have A_b5b3_7 := A_b5b3_5.other W7 (Ne.symm ne_ob_b5b3)
   have K7 := K5.wr W7 (Or.inl (List.mem_cons_self ..))
   have N7 := Fr.snoc X7 N5 ge_ob
   have Z7 : n0 ≤ h7.size := Nat.le_trans Z5 (Keep.of_wr W7).1
   refine own_go (fun tg k => st7 tg k) ?_
   show oF (T7.setTop (mkF m 31 #[oR r0, oI 0, oI p2, oI p3, oJ q4, oS, oR b4] []))
   refine own_go (fun _ k => XS.aload X7.here hx rfl (hb hby d8_31) rfl rfl k) ?_
   show oF (T7.setTop (mkF m 33 #[oR r0, oI 0, oI p2, oI p3, oJ q4, oS, oR b4] [(.ref b4)]))
   refine own_go (fun _ k => XS.iloadN X7.here hx rfl (hb hby d8_33) rfl (XS.iloadN X7.here hx rfl (hb hby d8_34) rfl (XS.lload X7.here hx rfl (hb hby d8_35) rfl k))) ?_
   have cq := isOf hZ e7 E_b4_7
   obtain ⟨cq8, kq8, q8a, q8b, q8c⟩ := cq
   have cq := X7.virtualBack hx (y := oM27) (z := oM27) hown (mvT hZ (oW hw 91 rfl)) (mvT hZ (oW hw 92 rfl)) (notFace_of_selects (args := #[]) (mvT hZ (oW hw 94 rfl))) (mvT hZ (oW hw 94 rfl)) (mvT hZ (oW hw 93 rfl)) (by decide) (backOf (W := 0) (rm10 l Z a0 hw [] b4 p2 p3 q4 (0 : Int32) b5b1 b5b2 b5b3 (fun _ => (0 : Int32)) (fun _ => (0 : Int32)) (fun _ => (0 : Int64)) h7 n0 Z7 E_b4_7 F_size_b4_7 F_senders_b4_7 F_receivers_b4_7 F_messages_b4_7 A_b5b1_7 A_b5b2_7 A_b5b3_7 ge_b4 ge_b5b1 ge_b5b2 ge_b5b3 ne_b5b1_b5b2 ⟨by decide, by decide⟩) hZ (oW hw 95 rfl) (oW hw 77 rfl) (by decide) (by decide)) q8a q8c (g := (mkF m 37 #[oR r0, oI 0, oI p2, oI p3, oJ q4, oS, oR b4] [(.long q4), (.int p3), (.int p2), (.ref b4)])) rfl (by rw [hml]; rfl) (Steps.refl _) (argsL := [(.int p2), (.int p3), (.long q4)]) (rest := []) (lenOf own_pd635 rfl) rfl (by show 2 * 0 + _ ≤ _; exact Nat.le_of_eq rfl) (hb hby d8_37) (fun _ _ => ⟨rfl, e7, (by decide : 4 + 0 ≤ _), (by decide : 53 + 0 ≤ _)⟩)
   obtain ⟨_, _, ⟨T8, L8, k8, n8⟩, -, X8, ⟨Lc8, hQ8, l8, y8, z8⟩, st8⟩ := cq
   dsimp only [Pt.U, Pt.locs, Pt.cells, Pt.slots] at X8 l8 y8 z8 st8 hQ8
   replace y8 : 4 = k8 := y8.symm
   replace z8 : 53 = n8 := z8.symm
   subst y8 z8
   obtain ⟨rfl, N8q, Kq8, E_b4_8, F_size_b4_8, F_senders_b4_8, F_receivers_b4_8, F_messages_b4_8, A_b5b1_8, A_b5b2_8, A_b5b3_8⟩ := hQ8
   have N8 : Fr n0 L8 := by rw [l8]; exact Fr.app N7 N8q
   have E_r0_8 := E_r0_7.keep Kq8
   have F_outboxes_r0_8 := F_outboxes_r0_7.keep Kq8 (ninS ne_r0_b4 (ninS ne_r0_b5b1 (ninS ne_r0_b5b2 (ninS ne_r0_b5b3 nin0))))
   have O_ob_8 := O_ob_7.keep Kq8 (ninS ne_ob_b4 (ninS ne_ob_b5b1 (ninS ne_ob_b5b2 (ninS ne_ob_b5b3 nin0))))
   have B_0_8 := B_0_7.keep Kq8 (allS nb_b4_0 (allS nb_b5b1_0 (allS nb_b5b2_0 (allS nb_b5b3_0 all0))))
   have B_1_8 := B_1_7.keep Kq8 (allS nb_b4_1 (allS nb_b5b1_1 (allS nb_b5b2_1 (allS nb_b5b3_1 all0))))
   have K8 := Keep.trans K7 Kq8 (allS (Or.inr sz_b4) (allS (Or.inr sz_b5b1) (allS (Or.inr sz_b5b2) (allS (Or.inr sz_b5b3) all0))))
   have Z8 : n0 ≤ T8.heap.size := Nat.le_trans Z7 Kq8.1
   refine own_go (fun tg k => st8.trans k) ?_
   show oF (T8.setTop (mkF m 40 #[oR r0, oI 0, oI p2, oI p3, oJ q4, oS, oR b4] []))
   refine own_retV X8 hx hlk Bd.returns (hb hby d8_40) (Nat.le_of_ble_eq_true rfl) (Nat.le_of_ble_eq_true rfl) ?_
   refine ⟨(.ref b4), v1, [b4, b5b1, b5b2, b5b3], Db, rfl, N8, K8, ?_, ?_, ?_, ?_, ?_, ?_⟩
   · first | (exact O_ob_8) | (simp only [if_pos hs1]; exact O_ob_8)
   · ( rw [own_psh, hL3]; (first | rw [if_pos hs1] | rw [if_pos rfl]); exact own_Box.mk (by simp) rfl (own_gp0 p3) ge_b4 ge_b5b1 ge_b5b2 ge_b5b3 ne_b5b1_b5b2 E_b4_8 F_size_b4_8 F_senders_b4_8 F_receivers_b4_8 F_messages_b4_8 A_b5b1_8 A_b5b2_8 A_b5b3_8)
   · ( rw [own_psh]; (first | rw [if_neg (by rw [hs1]; decide)] | rw [if_neg (by decide)]); exact B_1_8)
   · first | (exact own_all4 (Or.inr sz_b4) (Or.inr sz_b5b1) (Or.inr sz_b5b2) (Or.inr sz_b5b3)) | (simp only [if_pos hs1]; exact own_all4 (Or.inr sz_b4) (Or.inr sz_b5b1) (Or.inr sz_b5b2) (Or.inr sz_b5b3))
   · first | (exact fun x hx => Or.inl hx) | (simp only [if_pos hs1]; exact fun x hx => Or.inl hx)
   · first | (exact own_all4 nb_b4_1 nb_b5b1_1 nb_b5b2_1 nb_b5b3_1) | (simp only [if_pos hs1]; exact own_all4 nb_b4_1 nb_b5b1_1 nb_b5b2_1 nb_b5b3_1)
  ·refine own_vr hv3 ?_
   show oF (T2.setTop (mkF m 6 #[oR r0, oI 0, oI p2, oI p3, oJ q4, oS, oU] [(.ref xa3)]))
   obtain ⟨⟨ge_xa3, ge_xb3, ge_xc3, ge_xd3, ne_xb3_xc3⟩, E_xa3_o, F_size_xa3_o, F_senders_xa3_o, F_receivers_xa3_o, F_messages_xa3_o, A_xb3_o, A_xc3_o, A_xd3_o⟩ := hB3
   refine own_go (fun _ k => XS.astore X2.here hx rfl (hb hby d8_6) rfl rfl (l' := #[oR r0, oI 0, oI p2, oI p3, oJ q4, oS, oR xa3]) rfl (XS.aload X2.here hx rfl (hb hby d8_8) rfl rfl (XS.ifnonnullYes X2.here hx rfl (pc0 := 10) (pc' := 31) rfl (hb hby d8_10) rfl (by decide) (by decide) (XS.aload X2.here hx rfl (hb hby d8_31) rfl rfl k)))) ?_
   show oF (T2.setTop (mkF m 33 #[oR r0, oI 0, oI p2, oI p3, oJ q4, oS, oR xa3] [(.ref xa3)]))
   refine own_go (fun _ k => XS.iloadN X2.here hx rfl (hb hby d8_33) rfl (XS.iloadN X2.here hx rfl (hb hby d8_34) rfl (XS.lload X2.here hx rfl (hb hby d8_35) rfl k))) ?_
   have cq := isOf hZ e2 E_xa3_o
   obtain ⟨cq9, kq9, q9a, q9b, q9c⟩ := cq
   have cq := X2.virtualBack hx (y := oM27) (z := oM27) hown (mvT hZ (oW hw 91 rfl)) (mvT hZ (oW hw 92 rfl)) (notFace_of_selects (args := #[]) (mvT hZ (oW hw 94 rfl))) (mvT hZ (oW hw 94 rfl)) (mvT hZ (oW hw 93 rfl)) (by decide) (backOf (W := 0) (rm10 l Z a0 hw [] xa3 p2 p3 q4 (Int32.ofNat La.length) xb3 xc3 xd3 q13 gg3 q33 h0 n0 Z0 E_xa3_o F_size_xa3_o F_senders_xa3_o F_receivers_xa3_o F_messages_xa3_o A_xb3_o A_xc3_o A_xd3_o ge_xa3 ge_xb3 ge_xc3 ge_xd3 ne_xb3_xc3 (own_szz (by omega))) hZ (oW hw 95 rfl) (oW hw 77 rfl) (by decide) (by decide)) q9a q9c (g := (mkF m 37 #[oR r0, oI 0, oI p2, oI p3, oJ q4, oS, oR xa3] [(.long q4), (.int p3), (.int p2), (.ref xa3)])) rfl (by rw [hml]; rfl) (Steps.refl _) (argsL := [(.int p2), (.int p3), (.long q4)]) (rest := []) (lenOf own_pd635 rfl) rfl (by show 2 * 0 + _ ≤ _; exact Nat.le_of_eq rfl) (hb hby d8_37) (fun _ _ => ⟨rfl, e2, (by decide : 0 + 0 ≤ _), (by decide : 0 + 0 ≤ _)⟩)
   obtain ⟨_, _, ⟨T9, L9, k9, n9⟩, -, X9, ⟨Lc9, hQ9, l9, y9, z9⟩, st9⟩ := cq
   dsimp only [Pt.U, Pt.locs, Pt.cells, Pt.slots] at X9 l9 y9 z9 st9 hQ9
   replace y9 : 0 = k9 := y9.symm
   replace z9 : 0 = n9 := z9.symm
   subst y9 z9
   obtain ⟨rfl, N9q, Kq9, E_xa3_9, F_size_xa3_9, F_senders_xa3_9, F_receivers_xa3_9, F_messages_xa3_9, A_xb3_9, A_xc3_9, A_xd3_9⟩ := hQ9
   have N9 : Fr n0 L9 := by rw [l9]; exact Fr.app N0 N9q
   have E_r0_9 := E_r0_0.keep Kq9
   have F_outboxes_r0_9 := F_outboxes_r0_0.keep Kq9 (ninS (ne_exa E_r0_0 E_xa3_o (by decide)) (ninS (own_ne_arf E_r0_0 (oW hw 7 rfl) A_xb3_o) (ninS (own_ne_arf E_r0_0 (oW hw 7 rfl) A_xc3_o) (ninS (own_ne_arf E_r0_0 (oW hw 7 rfl) A_xd3_o) nin0))))
   have O_ob_9 := O_ob_0.keep Kq9 (ninS (own_nx nb_ob_0 (i := 0) (by rw [hD3]; rfl)) (ninS (own_nx nb_ob_0 (i := 1) (by rw [hD3]; rfl)) (ninS (own_nx nb_ob_0 (i := 2) (by rw [hD3]; rfl)) (ninS (own_nx nb_ob_0 (i := 3) (by rw [hD3]; rfl)) nin0))))
   have B_1_9 := B_1_0.keep Kq9 (allS (hdj xa3 (by rw [hD3]; simp)) (allS (hdj xb3 (by rw [hD3]; simp)) (allS (hdj xc3 (by rw [hD3]; simp)) (allS (hdj xd3 (by rw [hD3]; simp)) all0))))
   have K9 := Keep.trans K0 Kq9 (allS (Or.inl (List.mem_cons_of_mem _ (List.mem_append_left _ (by rw [hD3]; exact List.mem_of_getElem? (i := 0) rfl)))) (allS (Or.inl (List.mem_cons_of_mem _ (List.mem_append_left _ (by rw [hD3]; exact List.mem_of_getElem? (i := 1) rfl)))) (allS (Or.inl (List.mem_cons_of_mem _ (List.mem_append_left _ (by rw [hD3]; exact List.mem_of_getElem? (i := 2) rfl)))) (allS (Or.inl (List.mem_cons_of_mem _ (List.mem_append_left _ (by rw [hD3]; exact List.mem_of_getElem? (i := 3) rfl)))) all0))))
   have Z9 : n0 ≤ T9.heap.size := Nat.le_trans Z0 Kq9.1
   refine own_go (fun tg k => st9.trans k) ?_
   show oF (T9.setTop (mkF m 40 #[oR r0, oI 0, oI p2, oI p3, oJ q4, oS, oR xa3] []))
   refine own_retV X9 hx hlk Bd.returns (hb hby d8_40) (Nat.le_of_ble_eq_true rfl) (Nat.le_of_ble_eq_true rfl) ?_
   refine ⟨v0, v1, [xa3, xb3, xc3, xd3], Db, rfl, N9, K9, ?_, ?_, ?_, ?_, ?_, ?_⟩
   · first | (exact O_ob_9) | (simp only [if_pos hs1]; exact O_ob_9)
   · ( rw [hv3, own_psh]; (first | rw [if_pos hs1] | rw [if_pos rfl]); exact own_Box.mk (by simp; omega) (own_szp _ _) (own_gps (by omega) hg3 p3) ge_xa3 ge_xb3 ge_xc3 ge_xd3 ne_xb3_xc3 E_xa3_9 F_size_xa3_9 F_senders_xa3_9 F_receivers_xa3_9 F_messages_xa3_9 A_xb3_9 A_xc3_9 A_xd3_9)
   · ( rw [own_psh]; (first | rw [if_neg (by rw [hs1]; decide)] | rw [if_neg (by decide)]); exact B_1_9)
   · first | (exact fun x hx => Or.inl (by rw [hD3]; exact hx)) | (simp only [if_pos hs1]; exact fun x hx => Or.inl (by rw [hD3]; exact hx))
   · first | (exact fun x hx => Or.inl hx) | (simp only [if_pos hs1]; exact fun x hx => Or.inl hx)
   · first | (exact fun x hx => hdj x (by rw [hD3]; exact hx)) | (simp only [if_pos hs1]; exact fun x hx => hdj x (by rw [hD3]; exact hx))
 ·have hs10 : p1 = (1 : Int32) := (hbb.resolve_left hs1)
  try rw [hs10]
  show oF (s₁.setTop (mkF m 0 #[oR r0, oI 1, oI p2, oI p3, oJ q4, oS, oU] []))
  refine own_go (fun _ k => XS.aloadN X0.here hx rfl (hb hby d8_0) rfl rfl k) ?_
  obtain ⟨T11, X11, e11, st11⟩ := getF X0 hx hZ hown (host := "") (Or.inl (oW hw 29 rfl)) Via.refl e0 F_outboxes_r0_0 (g := (mkF m 1 #[oR r0, oI 1, oI p2, oI p3, oJ q4, oS, oU] [(.ref r0)])) rfl rfl (hb hby d8_1)
  refine own_go (fun tg k => st11 tg k) ?_
  refine own_go (fun _ k => XS.iloadN X11.here hx rfl (hb hby d8_4) rfl k) ?_
  refine own_go (fun tg k => own_oald X11 hx hZ e11 O_ob_0 (v := v1) (Or.inr ⟨rfl, rfl⟩) (g := (mkF m 5 #[oR r0, oI 1, oI p2, oI p3, oJ q4, oS, oU] [(.int 1), (.ref ob)])) rfl rfl (hb hby d8_5) tg k) ?_
  show oF (T11.setTop (mkF m 6 #[oR r0, oI 1, oI p2, oI p3, oJ q4, oS, oU] [v1]))
  obtain ⟨hl12, ⟨hv12, hD12, hL12⟩ | ⟨xa12, xb12, xc12, xd12, q112, gg12, q312, hv12, hD12, hB12, hg12⟩⟩ := id B_1_0
  ·refine own_vr hv12 ?_
   show oF (T11.setTop (mkF m 6 #[oR r0, oI 1, oI p2, oI p3, oJ q4, oS, oU] [.null]))
   refine own_go (fun _ k => XS.astore X11.here hx rfl (hb hby d8_6) rfl rfl (l' := #[oR r0, oI 1, oI p2, oI p3, oJ q4, oS, .val .null]) rfl (XS.aload X11.here hx rfl (hb hby d8_8) rfl rfl (XS.ifnonnullNo X11.here hx rfl (hb hby d8_10) rfl k))) ?_
   obtain ⟨T13, h13, X13, e13, E13, A13, D13, -, st13⟩ := newO X11 hx hZ hown (oW hw 27 rfl) (oW hw 76 rfl) (oW hw 77 rfl) e11 (g := (mkF m 13 #[oR r0, oI 1, oI p2, oI p3, oJ q4, oS, .val .null] [])) rfl (hb hby d8_13) (by decide) (by decide)
   obtain ⟨b13, g13⟩ : ∃ z, z = h0.size := ⟨_, rfl⟩
   rw [← g13] at A13 D13 st13
   have ne_r0_b13 : r0 ≠ b13 := Nat.ne_of_lt (Nat.lt_of_lt_of_le E_r0_0.lt (Nat.le_of_eq g13.symm))
   have ne_ob_b13 : ob ≠ b13 := Nat.ne_of_lt (Nat.lt_of_lt_of_le O_ob_0.lt (Nat.le_of_eq g13.symm))
   have nb_b13_0 : b13 ∉ Da := B_0_0.nin (Nat.le_of_eq g13.symm)
   have nb_b13_1 : b13 ∉ Db := B_1_0.nin (Nat.le_of_eq g13.symm)
   have ge_b13 : n0 ≤ b13 := Nat.le_trans Z0 (Nat.le_of_eq g13.symm)
   have sz_b13 : h0.size ≤ b13 := Nat.le_trans K0.1 (Nat.le_of_eq g13.symm)
   have E_r0_13 := E_r0_0.ext E13
   have F_outboxes_r0_13 := F_outboxes_r0_0.ext E13
   have O_ob_13 := O_ob_0.ext E13
   have B_0_13 := B_0_0.ext E13
   have B_1_13 := B_1_0.ext E13
   have K13 := K0.ext E13
   have Z13 : n0 ≤ h13.size := Nat.le_trans Z0 E13.1
   have E_b13_13 : Exa Z h13 b13 oC2 := A13
   have F_this_0_b13_13 : Fld Z h13 b13 oC2 "this$0" oC8 .null := D13 (Or.inr (oW hw 82 rfl)) (ty := (.object oC0)) (by decide)
   have F_senders_b13_13 : Fld Z h13 b13 oC2 "senders" "[I" .null := D13 (Or.inl (oW hw 85 rfl)) (ty := (.array .int)) (by decide)
   have F_receivers_b13_13 : Fld Z h13 b13 oC2 "receivers" "[I" .null := D13 (Or.inl (oW hw 87 rfl)) (ty := (.array .int)) (by decide)
   have F_messages_b13_13 : Fld Z h13 b13 oC2 "messages" "[J" .null := D13 (Or.inl (oW hw 89 rfl)) (ty := (.array .long)) (by decide)
   have F_size_b13_13 : Fld Z h13 b13 oC2 "size" "I" (.int 0) := D13 (Or.inl (oW hw 97 rfl)) (ty := .int) (by decide)
   refine own_go (fun tg k => st13 tg k) ?_
   refine own_go (fun _ k => XS.dup X13.here hx rfl (hb hby d8_16) rfl rfl (XS.aloadN X13.here hx rfl (hb hby d8_17) rfl rfl k)) ?_
   have cq := own_specR X13 hx hZ (y := oM26) rfl hown (oW hw 78 rfl) (oW hw 79 rfl) (oW hw 80 rfl) (by decide) (backOf (W := 1) (rm9 l Z a0 hw [] b13 r0 h13 n0 Z13 E_b13_13 F_size_b13_13 F_senders_b13_13 F_receivers_b13_13 F_messages_b13_13 F_this_0_b13_13 ge_b13) hZ (oW hw 80 rfl) (oW hw 77 rfl) (by decide) (by decide)) (g := (mkF m 18 #[oR r0, oI 1, oI p2, oI p3, oJ q4, oS, .val .null] [(.ref r0), (.ref b13), (.ref b13)])) rfl (by rw [hml]; rfl) (a := b13) (argsL := [(.ref r0)]) (rest := [(.ref b13)]) (lenOf own_pd634 rfl) rfl (by show 2 * 0 + _ ≤ _; exact Nat.le_of_eq rfl) (hb hby d8_18) (fun _ _ => ⟨rfl, e13, (by decide : 1 + 3 ≤ _), (by decide : 5 + 48 ≤ _)⟩)
   obtain ⟨_, _, ⟨T14, L14, k14, n14⟩, -, X14, ⟨Lc14, hQ14, l14, y14, z14⟩, st14⟩ := cq
   dsimp only [Pt.U, Pt.locs, Pt.cells, Pt.slots] at X14 l14 y14 z14 st14 hQ14
   replace y14 : 4 = k14 := y14.symm
   replace z14 : 53 = n14 := z14.symm
   subst y14 z14
   obtain ⟨b14b1, b14b2, b14b3, rfl, N14q, Kq14, szq_b14b1, szq_b14b2, szq_b14b3, E_b13_14, F_size_b13_14, F_senders_b13_14, F_receivers_b13_14, F_messages_b13_14, A_b14b1_14, A_b14b2_14, A_b14b3_14, ne_b14b1_b14b2⟩ := hQ14
   have N14 : Fr n0 L14 := by rw [l14]; exact Fr.app N0 N14q
   have ne_r0_b14b1 : r0 ≠ b14b1 := Nat.ne_of_lt (Nat.lt_of_lt_of_le E_r0_13.lt szq_b14b1)
   have ne_ob_b14b1 : ob ≠ b14b1 := Nat.ne_of_lt (Nat.lt_of_lt_of_le O_ob_13.lt szq_b14b1)
   have ne_b13_b14b1 : b13 ≠ b14b1 := Nat.ne_of_lt (Nat.lt_of_lt_of_le E_b13_13.lt szq_b14b1)
   have nb_b14b1_0 : b14b1 ∉ Da := B_0_13.nin szq_b14b1
   have nb_b14b1_1 : b14b1 ∉ Db := B_1_13.nin szq_b14b1
   have ge_b14b1 : n0 ≤ b14b1 := Nat.le_trans Z13 szq_b14b1
   have sz_b14b1 : h0.size ≤ b14b1 := Nat.le_trans K13.1 szq_b14b1
   have ne_r0_b14b2 : r0 ≠ b14b2 := Nat.ne_of_lt (Nat.lt_of_lt_of_le E_r0_13.lt szq_b14b2)
   have ne_ob_b14b2 : ob ≠ b14b2 := Nat.ne_of_lt (Nat.lt_of_lt_of_le O_ob_13.lt szq_b14b2)
   have ne_b13_b14b2 : b13 ≠ b14b2 := Nat.ne_of_lt (Nat.lt_of_lt_of_le E_b13_13.lt szq_b14b2)
   have nb_b14b2_0 : b14b2 ∉ Da := B_0_13.nin szq_b14b2
   have nb_b14b2_1 : b14b2 ∉ Db := B_1_13.nin szq_b14b2
   have ge_b14b2 : n0 ≤ b14b2 := Nat.le_trans Z13 szq_b14b2
   have sz_b14b2 : h0.size ≤ b14b2 := Nat.le_trans K13.1 szq_b14b2
   have ne_r0_b14b3 : r0 ≠ b14b3 := Nat.ne_of_lt (Nat.lt_of_lt_of_le E_r0_13.lt szq_b14b3)
   have ne_ob_b14b3 : ob ≠ b14b3 := Nat.ne_of_lt (Nat.lt_of_lt_of_le O_ob_13.lt szq_b14b3)
   have ne_b13_b14b3 : b13 ≠ b14b3 := Nat.ne_of_lt (Nat.lt_of_lt_of_le E_b13_13.lt szq_b14b3)
   have nb_b14b3_0 : b14b3 ∉ Da := B_0_13.nin szq_b14b3
   have nb_b14b3_1 : b14b3 ∉ Db := B_1_13.nin szq_b14b3
   have ge_b14b3 : n0 ≤ b14b3 := Nat.le_trans Z13 szq_b14b3
   have sz_b14b3 : h0.size ≤ b14b3 := Nat.le_trans K13.1 szq_b14b3
   have E_r0_14 := E_r0_13.keep Kq14
   have F_outboxes_r0_14 := F_outboxes_r0_13.keep Kq14 (ninS ne_r0_b13 nin0)
   have O_ob_14 := O_ob_13.keep Kq14 (ninS ne_ob_b13 nin0)
   have B_0_14 := B_0_13.keep Kq14 (allS nb_b13_0 all0)
   have B_1_14 := B_1_13.keep Kq14 (allS nb_b13_1 all0)
   have K14 := Keep.trans K13 Kq14 (allS (Or.inr sz_b13) all0)
   have Z14 : n0 ≤ T14.heap.size := Nat.le_trans Z13 Kq14.1
   refine own_go (fun tg k => st14.trans k) ?_
   show oF (T14.setTop (mkF m 21 #[oR r0, oI 1, oI p2, oI p3, oJ q4, oS, .val .null] [(.ref b13)]))
   refine own_go (fun _ k => XS.astore X14.here hx rfl (hb hby d8_21) rfl rfl (l' := #[oR r0, oI 1, oI p2, oI p3, oJ q4, oS, oR b13]) rfl (XS.aloadN X14.here hx rfl (hb hby d8_23) rfl rfl k)) ?_
   obtain ⟨T15, X15, e15, st15⟩ := getF X14 hx hZ hown (host := "") (Or.inl (oW hw 29 rfl)) Via.refl rfl F_outboxes_r0_14 (g := (mkF m 24 #[oR r0, oI 1, oI p2, oI p3, oJ q4, oS, oR b13] [(.ref r0)])) rfl rfl (hb hby d8_24)
   refine own_go (fun tg k => st15 tg k) ?_
   refine own_go (fun _ k => XS.iloadN X15.here hx rfl (hb hby d8_27) rfl (XS.aload X15.here hx rfl (hb hby d8_28) rfl rfl k)) ?_
   obtain ⟨T16, h16, X16, e16, W16, O_ob_16, st16⟩ := own_oast X15 hx hZ e15 O_ob_14 E_b13_14 (j := (1 : Int32)) (Or.inr rfl) (g := (mkF m 30 #[oR r0, oI 1, oI p2, oI p3, oJ q4, oS, oR b13] [(.ref b13), (.int 1), (.ref ob)])) rfl rfl (hb hby d8_30)
   replace O_ob_16 : own_Oa Z h16 ob oC2 v0 (.ref b13) := O_ob_16
   have E_r0_16 := E_r0_14.wr W16
   have F_outboxes_r0_16 := F_outboxes_r0_14.other W16 (Or.inl (own_ne_oa E_r0_14 (oW hw 7 rfl) O_ob_14))
   have B_0_16 := B_0_14.other W16 nb_ob_0
   have B_1_16 := B_1_14.other W16 nb_ob_1
   have E_b13_16 := E_b13_14.wr W16
   have F_senders_b13_16 := F_senders_b13_14.other W16 (Or.inl (Ne.symm ne_ob_b13))
   have F_receivers_b13_16 := F_receivers_b13_14.other W16 (Or.inl (Ne.symm ne_ob_b13))
   have F_messages_b13_16 := F_messages_b13_14.other W16 (Or.inl (Ne.symm ne_ob_b13))
   have F_size_b13_16 := F_size_b13_14.other W16 (Or.inl (Ne.symm ne_ob_b13))
   have A_b14b1_16 := A_b14b1_14.other W16 (Ne.symm ne_ob_b14b1)
   have A_b14b2_16 := A_b14b2_14.other W16 (Ne.symm ne_ob_b14b2)
   have A_b14b3_16 := A_b14b3_14.other W16 (Ne.symm ne_ob_b14b3)
   have K16 := K14.wr W16 (Or.inl (List.mem_cons_self ..))
   have N16 := Fr.snoc X16 N14 ge_ob
   have Z16 : n0 ≤ h16.size := Nat.le_trans Z14 (Keep.of_wr W16).1
   refine own_go (fun tg k => st16 tg k) ?_
   show oF (T16.setTop (mkF m 31 #[oR r0, oI 1, oI p2, oI p3, oJ q4, oS, oR b13] []))
   refine own_go (fun _ k => XS.aload X16.here hx rfl (hb hby d8_31) rfl rfl k) ?_
   show oF (T16.setTop (mkF m 33 #[oR r0, oI 1, oI p2, oI p3, oJ q4, oS, oR b13] [(.ref b13)]))
   refine own_go (fun _ k => XS.iloadN X16.here hx rfl (hb hby d8_33) rfl (XS.iloadN X16.here hx rfl (hb hby d8_34) rfl (XS.lload X16.here hx rfl (hb hby d8_35) rfl k))) ?_
   have cq := isOf hZ e16 E_b13_16
   obtain ⟨cq17, kq17, q17a, q17b, q17c⟩ := cq
   have cq := X16.virtualBack hx (y := oM27) (z := oM27) hown (mvT hZ (oW hw 91 rfl)) (mvT hZ (oW hw 92 rfl)) (notFace_of_selects (args := #[]) (mvT hZ (oW hw 94 rfl))) (mvT hZ (oW hw 94 rfl)) (mvT hZ (oW hw 93 rfl)) (by decide) (backOf (W := 0) (rm10 l Z a0 hw [] b13 p2 p3 q4 (0 : Int32) b14b1 b14b2 b14b3 (fun _ => (0 : Int32)) (fun _ => (0 : Int32)) (fun _ => (0 : Int64)) h16 n0 Z16 E_b13_16 F_size_b13_16 F_senders_b13_16 F_receivers_b13_16 F_messages_b13_16 A_b14b1_16 A_b14b2_16 A_b14b3_16 ge_b13 ge_b14b1 ge_b14b2 ge_b14b3 ne_b14b1_b14b2 ⟨by decide, by decide⟩) hZ (oW hw 95 rfl) (oW hw 77 rfl) (by decide) (by decide)) q17a q17c (g := (mkF m 37 #[oR r0, oI 1, oI p2, oI p3, oJ q4, oS, oR b13] [(.long q4), (.int p3), (.int p2), (.ref b13)])) rfl (by rw [hml]; rfl) (Steps.refl _) (argsL := [(.int p2), (.int p3), (.long q4)]) (rest := []) (lenOf own_pd635 rfl) rfl (by show 2 * 0 + _ ≤ _; exact Nat.le_of_eq rfl) (hb hby d8_37) (fun _ _ => ⟨rfl, e16, (by decide : 4 + 0 ≤ _), (by decide : 53 + 0 ≤ _)⟩)
   obtain ⟨_, _, ⟨T17, L17, k17, n17⟩, -, X17, ⟨Lc17, hQ17, l17, y17, z17⟩, st17⟩ := cq
   dsimp only [Pt.U, Pt.locs, Pt.cells, Pt.slots] at X17 l17 y17 z17 st17 hQ17
   replace y17 : 4 = k17 := y17.symm
   replace z17 : 53 = n17 := z17.symm
   subst y17 z17
   obtain ⟨rfl, N17q, Kq17, E_b13_17, F_size_b13_17, F_senders_b13_17, F_receivers_b13_17, F_messages_b13_17, A_b14b1_17, A_b14b2_17, A_b14b3_17⟩ := hQ17
   have N17 : Fr n0 L17 := by rw [l17]; exact Fr.app N16 N17q
   have E_r0_17 := E_r0_16.keep Kq17
   have F_outboxes_r0_17 := F_outboxes_r0_16.keep Kq17 (ninS ne_r0_b13 (ninS ne_r0_b14b1 (ninS ne_r0_b14b2 (ninS ne_r0_b14b3 nin0))))
   have O_ob_17 := O_ob_16.keep Kq17 (ninS ne_ob_b13 (ninS ne_ob_b14b1 (ninS ne_ob_b14b2 (ninS ne_ob_b14b3 nin0))))
   have B_0_17 := B_0_16.keep Kq17 (allS nb_b13_0 (allS nb_b14b1_0 (allS nb_b14b2_0 (allS nb_b14b3_0 all0))))
   have B_1_17 := B_1_16.keep Kq17 (allS nb_b13_1 (allS nb_b14b1_1 (allS nb_b14b2_1 (allS nb_b14b3_1 all0))))
   have K17 := Keep.trans K16 Kq17 (allS (Or.inr sz_b13) (allS (Or.inr sz_b14b1) (allS (Or.inr sz_b14b2) (allS (Or.inr sz_b14b3) all0))))
   have Z17 : n0 ≤ T17.heap.size := Nat.le_trans Z16 Kq17.1
   refine own_go (fun tg k => st17.trans k) ?_
   show oF (T17.setTop (mkF m 40 #[oR r0, oI 1, oI p2, oI p3, oJ q4, oS, oR b13] []))
   refine own_retV X17 hx hlk Bd.returns (hb hby d8_40) (Nat.le_of_ble_eq_true rfl) (Nat.le_of_ble_eq_true rfl) ?_
   refine ⟨v0, (.ref b13), Da, [b13, b14b1, b14b2, b14b3], rfl, N17, K17, ?_, ?_, ?_, ?_, ?_, ?_⟩
   · first | (exact O_ob_17) | (simp only [if_neg hs1]; exact O_ob_17)
   · ( rw [own_psh]; (first | rw [if_neg hs1] | rw [if_neg (by decide)]); exact B_0_17)
   · ( rw [own_psh, hL12]; (first | rw [if_pos hs10] | rw [if_pos rfl]); exact own_Box.mk (by simp) rfl (own_gp0 p3) ge_b13 ge_b14b1 ge_b14b2 ge_b14b3 ne_b14b1_b14b2 E_b13_17 F_size_b13_17 F_senders_b13_17 F_receivers_b13_17 F_messages_b13_17 A_b14b1_17 A_b14b2_17 A_b14b3_17)
   · first | (exact fun x hx => Or.inl hx) | (simp only [if_neg hs1]; exact fun x hx => Or.inl hx)
   · first | (exact own_all4 (Or.inr sz_b13) (Or.inr sz_b14b1) (Or.inr sz_b14b2) (Or.inr sz_b14b3)) | (simp only [if_neg hs1]; exact own_all4 (Or.inr sz_b13) (Or.inr sz_b14b1) (Or.inr sz_b14b2) (Or.inr sz_b14b3))
   · first | (exact fun x hx hc => (own_all4 (P := fun y => y ∉ Da) nb_b13_0 nb_b14b1_0 nb_b14b2_0 nb_b14b3_0) x hc hx) | (simp only [if_neg hs1]; exact fun x hx hc => (own_all4 (P := fun y => y ∉ Da) nb_b13_0 nb_b14b1_0 nb_b14b2_0 nb_b14b3_0) x hc hx)
  ·refine own_vr hv12 ?_
   show oF (T11.setTop (mkF m 6 #[oR r0, oI 1, oI p2, oI p3, oJ q4, oS, oU] [(.ref xa12)]))
   obtain ⟨⟨ge_xa12, ge_xb12, ge_xc12, ge_xd12, ne_xb12_xc12⟩, E_xa12_o, F_size_xa12_o, F_senders_xa12_o, F_receivers_xa12_o, F_messages_xa12_o, A_xb12_o, A_xc12_o, A_xd12_o⟩ := hB12
   refine own_go (fun _ k => XS.astore X11.here hx rfl (hb hby d8_6) rfl rfl (l' := #[oR r0, oI 1, oI p2, oI p3, oJ q4, oS, oR xa12]) rfl (XS.aload X11.here hx rfl (hb hby d8_8) rfl rfl (XS.ifnonnullYes X11.here hx rfl (pc0 := 10) (pc' := 31) rfl (hb hby d8_10) rfl (by decide) (by decide) (XS.aload X11.here hx rfl (hb hby d8_31) rfl rfl k)))) ?_
   show oF (T11.setTop (mkF m 33 #[oR r0, oI 1, oI p2, oI p3, oJ q4, oS, oR xa12] [(.ref xa12)]))
   refine own_go (fun _ k => XS.iloadN X11.here hx rfl (hb hby d8_33) rfl (XS.iloadN X11.here hx rfl (hb hby d8_34) rfl (XS.lload X11.here hx rfl (hb hby d8_35) rfl k))) ?_
   have cq := isOf hZ e11 E_xa12_o
   obtain ⟨cq18, kq18, q18a, q18b, q18c⟩ := cq
   have cq := X11.virtualBack hx (y := oM27) (z := oM27) hown (mvT hZ (oW hw 91 rfl)) (mvT hZ (oW hw 92 rfl)) (notFace_of_selects (args := #[]) (mvT hZ (oW hw 94 rfl))) (mvT hZ (oW hw 94 rfl)) (mvT hZ (oW hw 93 rfl)) (by decide) (backOf (W := 0) (rm10 l Z a0 hw [] xa12 p2 p3 q4 (Int32.ofNat Lb.length) xb12 xc12 xd12 q112 gg12 q312 h0 n0 Z0 E_xa12_o F_size_xa12_o F_senders_xa12_o F_receivers_xa12_o F_messages_xa12_o A_xb12_o A_xc12_o A_xd12_o ge_xa12 ge_xb12 ge_xc12 ge_xd12 ne_xb12_xc12 (own_szz (by omega))) hZ (oW hw 95 rfl) (oW hw 77 rfl) (by decide) (by decide)) q18a q18c (g := (mkF m 37 #[oR r0, oI 1, oI p2, oI p3, oJ q4, oS, oR xa12] [(.long q4), (.int p3), (.int p2), (.ref xa12)])) rfl (by rw [hml]; rfl) (Steps.refl _) (argsL := [(.int p2), (.int p3), (.long q4)]) (rest := []) (lenOf own_pd635 rfl) rfl (by show 2 * 0 + _ ≤ _; exact Nat.le_of_eq rfl) (hb hby d8_37) (fun _ _ => ⟨rfl, e11, (by decide : 0 + 0 ≤ _), (by decide : 0 + 0 ≤ _)⟩)
   obtain ⟨_, _, ⟨T18, L18, k18, n18⟩, -, X18, ⟨Lc18, hQ18, l18, y18, z18⟩, st18⟩ := cq
   dsimp only [Pt.U, Pt.locs, Pt.cells, Pt.slots] at X18 l18 y18 z18 st18 hQ18
   replace y18 : 0 = k18 := y18.symm
   replace z18 : 0 = n18 := z18.symm
   subst y18 z18
   obtain ⟨rfl, N18q, Kq18, E_xa12_18, F_size_xa12_18, F_senders_xa12_18, F_receivers_xa12_18, F_messages_xa12_18, A_xb12_18, A_xc12_18, A_xd12_18⟩ := hQ18
   have N18 : Fr n0 L18 := by rw [l18]; exact Fr.app N0 N18q
   have E_r0_18 := E_r0_0.keep Kq18
   have F_outboxes_r0_18 := F_outboxes_r0_0.keep Kq18 (ninS (ne_exa E_r0_0 E_xa12_o (by decide)) (ninS (own_ne_arf E_r0_0 (oW hw 7 rfl) A_xb12_o) (ninS (own_ne_arf E_r0_0 (oW hw 7 rfl) A_xc12_o) (ninS (own_ne_arf E_r0_0 (oW hw 7 rfl) A_xd12_o) nin0))))
   have O_ob_18 := O_ob_0.keep Kq18 (ninS (own_nx nb_ob_1 (i := 0) (by rw [hD12]; rfl)) (ninS (own_nx nb_ob_1 (i := 1) (by rw [hD12]; rfl)) (ninS (own_nx nb_ob_1 (i := 2) (by rw [hD12]; rfl)) (ninS (own_nx nb_ob_1 (i := 3) (by rw [hD12]; rfl)) nin0))))
   have B_0_18 := B_0_0.keep Kq18 (allS (hdk xa12 (by rw [hD12]; simp)) (allS (hdk xb12 (by rw [hD12]; simp)) (allS (hdk xc12 (by rw [hD12]; simp)) (allS (hdk xd12 (by rw [hD12]; simp)) all0))))
   have K18 := Keep.trans K0 Kq18 (allS (Or.inl (List.mem_cons_of_mem _ (List.mem_append_right _ (by rw [hD12]; exact List.mem_of_getElem? (i := 0) rfl)))) (allS (Or.inl (List.mem_cons_of_mem _ (List.mem_append_right _ (by rw [hD12]; exact List.mem_of_getElem? (i := 1) rfl)))) (allS (Or.inl (List.mem_cons_of_mem _ (List.mem_append_right _ (by rw [hD12]; exact List.mem_of_getElem? (i := 2) rfl)))) (allS (Or.inl (List.mem_cons_of_mem _ (List.mem_append_right _ (by rw [hD12]; exact List.mem_of_getElem? (i := 3) rfl)))) all0))))
   have Z18 : n0 ≤ T18.heap.size := Nat.le_trans Z0 Kq18.1
   refine own_go (fun tg k => st18.trans k) ?_
   show oF (T18.setTop (mkF m 40 #[oR r0, oI 1, oI p2, oI p3, oJ q4, oS, oR xa12] []))
   refine own_retV X18 hx hlk Bd.returns (hb hby d8_40) (Nat.le_of_ble_eq_true rfl) (Nat.le_of_ble_eq_true rfl) ?_
   refine ⟨v0, v1, Da, [xa12, xb12, xc12, xd12], rfl, N18, K18, ?_, ?_, ?_, ?_, ?_, ?_⟩
   · first | (exact O_ob_18) | (simp only [if_neg hs1]; exact O_ob_18)
   · ( rw [own_psh]; (first | rw [if_neg hs1] | rw [if_neg (by decide)]); exact B_0_18)
   · ( rw [hv12, own_psh]; (first | rw [if_pos hs10] | rw [if_pos rfl]); exact own_Box.mk (by simp; omega) (own_szp _ _) (own_gps (by omega) hg12 p3) ge_xa12 ge_xb12 ge_xc12 ge_xd12 ne_xb12_xc12 E_xa12_18 F_size_xa12_18 F_senders_xa12_18 F_receivers_xa12_18 F_messages_xa12_18 A_xb12_18 A_xc12_18 A_xd12_18)
   · first | (exact fun x hx => Or.inl hx) | (simp only [if_neg hs1]; exact fun x hx => Or.inl hx)
   · first | (exact fun x hx => Or.inl (by rw [hD12]; exact hx)) | (simp only [if_neg hs1]; exact fun x hx => Or.inl (by rw [hD12]; exact hx))
   · first | (exact fun x hx => hD12 ▸ hdj x hx) | (simp only [if_neg hs1]; exact fun x hx => hD12 ▸ hdj x hx)
theorem own_sn661 {Z : State} {a0 : Array Value} (hw : oH Z a0) : oO Z oC0 "receivers" "I" ≠ oO Z oC0 "delivered" "I" := slot_ne (Or.inr (oW hw 24 rfl)) (Or.inl (oW hw 128 rfl)) (by decide) (t := .int) (t' := .int) (by decide) (by decide)
theorem own_sn662 {Z : State} {a0 : Array Value} (hw : oH Z a0) : oO Z oC0 "outboxes" oC4 ≠ oO Z oC0 "delivered" "I" := slot_ne (Or.inr (oW hw 30 rfl)) (Or.inl (oW hw 128 rfl)) (by decide) (t := (.array (.object oC2))) (t' := .int) (by decide) (by decide)
theorem own_sn663 {Z : State} {a0 : Array Value} (hw : oH Z a0) : oO Z oC0 "recipients" oC6 ≠ oO Z oC0 "delivered" "I" := slot_ne (Or.inr (oW hw 63 rfl)) (Or.inl (oW hw 128 rfl)) (by decide) (t := (.object oC1)) (t' := .int) (by decide) (by decide)
theorem own_sn664 {Z : State} {a0 : Array Value} (hw : oH Z a0) : oO Z oC0 "senders" "[I" ≠ oO Z oC0 "delivered" "I" := slot_ne (Or.inl (oW hw 130 rfl)) (Or.inl (oW hw 128 rfl)) (by decide) (t := (.array .int)) (t' := .int) (by decide) (by decide)
theorem own_sn665 {Z : State} {a0 : Array Value} (hw : oH Z a0) : oO Z oC0 "messages" "[J" ≠ oO Z oC0 "delivered" "I" := slot_ne (Or.inl (oW hw 132 rfl)) (Or.inl (oW hw 128 rfl)) (by decide) (t := (.array .long)) (t' := .int) (by decide) (by decide)
theorem own_sn666 {Z : State} {a0 : Array Value} (hw : oH Z a0) : oO Z oC0 "first" "[I" ≠ oO Z oC0 "delivered" "I" := slot_ne (Or.inl (oW hw 134 rfl)) (Or.inl (oW hw 128 rfl)) (by decide) (t := (.array .int)) (t' := .int) (by decide) (by decide)
theorem own_sn667 {Z : State} {a0 : Array Value} (hw : oH Z a0) : oO Z oC0 "end" "[I" ≠ oO Z oC0 "delivered" "I" := slot_ne (Or.inl (oW hw 70 rfl)) (Or.inl (oW hw 128 rfl)) (by decide) (t := (.array .int)) (t' := .int) (by decide) (by decide)
theorem own_sn668 {Z : State} {a0 : Array Value} (hw : oH Z a0) : oO Z oC0 "receivers" "I" ≠ oO Z oC0 "senders" "[I" := slot_ne (Or.inr (oW hw 24 rfl)) (Or.inl (oW hw 130 rfl)) (by decide) (t := .int) (t' := (.array .int)) (by decide) (by decide)
theorem own_sn669 {Z : State} {a0 : Array Value} (hw : oH Z a0) : oO Z oC0 "outboxes" oC4 ≠ oO Z oC0 "senders" "[I" := slot_ne (Or.inr (oW hw 30 rfl)) (Or.inl (oW hw 130 rfl)) (by decide) (t := (.array (.object oC2))) (t' := (.array .int)) (by decide) (by decide)
theorem own_sn670 {Z : State} {a0 : Array Value} (hw : oH Z a0) : oO Z oC0 "recipients" oC6 ≠ oO Z oC0 "senders" "[I" := slot_ne (Or.inr (oW hw 63 rfl)) (Or.inl (oW hw 130 rfl)) (by decide) (t := (.object oC1)) (t' := (.array .int)) (by decide) (by decide)
theorem own_sn671 {Z : State} {a0 : Array Value} (hw : oH Z a0) : oO Z oC0 "delivered" "I" ≠ oO Z oC0 "senders" "[I" := slot_ne (Or.inl (oW hw 128 rfl)) (Or.inl (oW hw 130 rfl)) (by decide) (t := .int) (t' := (.array .int)) (by decide) (by decide)
theorem own_sn672 {Z : State} {a0 : Array Value} (hw : oH Z a0) : oO Z oC0 "messages" "[J" ≠ oO Z oC0 "senders" "[I" := slot_ne (Or.inl (oW hw 132 rfl)) (Or.inl (oW hw 130 rfl)) (by decide) (t := (.array .long)) (t' := (.array .int)) (by decide) (by decide)
theorem own_sn673 {Z : State} {a0 : Array Value} (hw : oH Z a0) : oO Z oC0 "first" "[I" ≠ oO Z oC0 "senders" "[I" := slot_ne (Or.inl (oW hw 134 rfl)) (Or.inl (oW hw 130 rfl)) (by decide) (t := (.array .int)) (t' := (.array .int)) (by decide) (by decide)
theorem own_sn674 {Z : State} {a0 : Array Value} (hw : oH Z a0) : oO Z oC0 "end" "[I" ≠ oO Z oC0 "senders" "[I" := slot_ne (Or.inl (oW hw 70 rfl)) (Or.inl (oW hw 130 rfl)) (by decide) (t := (.array .int)) (t' := (.array .int)) (by decide) (by decide)
theorem own_sn675 {Z : State} {a0 : Array Value} (hw : oH Z a0) : oO Z oC0 "receivers" "I" ≠ oO Z oC0 "messages" "[J" := slot_ne (Or.inr (oW hw 24 rfl)) (Or.inl (oW hw 132 rfl)) (by decide) (t := .int) (t' := (.array .long)) (by decide) (by decide)
theorem own_sn676 {Z : State} {a0 : Array Value} (hw : oH Z a0) : oO Z oC0 "outboxes" oC4 ≠ oO Z oC0 "messages" "[J" := slot_ne (Or.inr (oW hw 30 rfl)) (Or.inl (oW hw 132 rfl)) (by decide) (t := (.array (.object oC2))) (t' := (.array .long)) (by decide) (by decide)
theorem own_sn677 {Z : State} {a0 : Array Value} (hw : oH Z a0) : oO Z oC0 "recipients" oC6 ≠ oO Z oC0 "messages" "[J" := slot_ne (Or.inr (oW hw 63 rfl)) (Or.inl (oW hw 132 rfl)) (by decide) (t := (.object oC1)) (t' := (.array .long)) (by decide) (by decide)
theorem own_sn678 {Z : State} {a0 : Array Value} (hw : oH Z a0) : oO Z oC0 "delivered" "I" ≠ oO Z oC0 "messages" "[J" := slot_ne (Or.inl (oW hw 128 rfl)) (Or.inl (oW hw 132 rfl)) (by decide) (t := .int) (t' := (.array .long)) (by decide) (by decide)
theorem own_sn679 {Z : State} {a0 : Array Value} (hw : oH Z a0) : oO Z oC0 "senders" "[I" ≠ oO Z oC0 "messages" "[J" := slot_ne (Or.inl (oW hw 130 rfl)) (Or.inl (oW hw 132 rfl)) (by decide) (t := (.array .int)) (t' := (.array .long)) (by decide) (by decide)
theorem own_sn680 {Z : State} {a0 : Array Value} (hw : oH Z a0) : oO Z oC0 "first" "[I" ≠ oO Z oC0 "messages" "[J" := slot_ne (Or.inl (oW hw 134 rfl)) (Or.inl (oW hw 132 rfl)) (by decide) (t := (.array .int)) (t' := (.array .long)) (by decide) (by decide)
theorem own_sn681 {Z : State} {a0 : Array Value} (hw : oH Z a0) : oO Z oC0 "end" "[I" ≠ oO Z oC0 "messages" "[J" := slot_ne (Or.inl (oW hw 70 rfl)) (Or.inl (oW hw 132 rfl)) (by decide) (t := (.array .int)) (t' := (.array .long)) (by decide) (by decide)
theorem own_sn682 {Z : State} {a0 : Array Value} (hw : oH Z a0) : oO Z oC0 "receivers" "I" ≠ oO Z oC0 "first" "[I" := slot_ne (Or.inr (oW hw 24 rfl)) (Or.inl (oW hw 134 rfl)) (by decide) (t := .int) (t' := (.array .int)) (by decide) (by decide)
theorem own_sn683 {Z : State} {a0 : Array Value} (hw : oH Z a0) : oO Z oC0 "outboxes" oC4 ≠ oO Z oC0 "first" "[I" := slot_ne (Or.inr (oW hw 30 rfl)) (Or.inl (oW hw 134 rfl)) (by decide) (t := (.array (.object oC2))) (t' := (.array .int)) (by decide) (by decide)
theorem own_sn684 {Z : State} {a0 : Array Value} (hw : oH Z a0) : oO Z oC0 "recipients" oC6 ≠ oO Z oC0 "first" "[I" := slot_ne (Or.inr (oW hw 63 rfl)) (Or.inl (oW hw 134 rfl)) (by decide) (t := (.object oC1)) (t' := (.array .int)) (by decide) (by decide)
theorem own_sn685 {Z : State} {a0 : Array Value} (hw : oH Z a0) : oO Z oC0 "delivered" "I" ≠ oO Z oC0 "first" "[I" := slot_ne (Or.inl (oW hw 128 rfl)) (Or.inl (oW hw 134 rfl)) (by decide) (t := .int) (t' := (.array .int)) (by decide) (by decide)
theorem own_sn686 {Z : State} {a0 : Array Value} (hw : oH Z a0) : oO Z oC0 "senders" "[I" ≠ oO Z oC0 "first" "[I" := slot_ne (Or.inl (oW hw 130 rfl)) (Or.inl (oW hw 134 rfl)) (by decide) (t := (.array .int)) (t' := (.array .int)) (by decide) (by decide)
theorem own_sn687 {Z : State} {a0 : Array Value} (hw : oH Z a0) : oO Z oC0 "messages" "[J" ≠ oO Z oC0 "first" "[I" := slot_ne (Or.inl (oW hw 132 rfl)) (Or.inl (oW hw 134 rfl)) (by decide) (t := (.array .long)) (t' := (.array .int)) (by decide) (by decide)
theorem own_sn688 {Z : State} {a0 : Array Value} (hw : oH Z a0) : oO Z oC0 "end" "[I" ≠ oO Z oC0 "first" "[I" := slot_ne (Or.inl (oW hw 70 rfl)) (Or.inl (oW hw 134 rfl)) (by decide) (t := (.array .int)) (t' := (.array .int)) (by decide) (by decide)
theorem own_sn689 {Z : State} {a0 : Array Value} (hw : oH Z a0) : oO Z oC0 "receivers" "I" ≠ oO Z oC0 "end" "[I" := slot_ne (Or.inr (oW hw 24 rfl)) (Or.inl (oW hw 70 rfl)) (by decide) (t := .int) (t' := (.array .int)) (by decide) (by decide)
theorem own_sn690 {Z : State} {a0 : Array Value} (hw : oH Z a0) : oO Z oC0 "outboxes" oC4 ≠ oO Z oC0 "end" "[I" := slot_ne (Or.inr (oW hw 30 rfl)) (Or.inl (oW hw 70 rfl)) (by decide) (t := (.array (.object oC2))) (t' := (.array .int)) (by decide) (by decide)
theorem own_sn691 {Z : State} {a0 : Array Value} (hw : oH Z a0) : oO Z oC0 "recipients" oC6 ≠ oO Z oC0 "end" "[I" := slot_ne (Or.inr (oW hw 63 rfl)) (Or.inl (oW hw 70 rfl)) (by decide) (t := (.object oC1)) (t' := (.array .int)) (by decide) (by decide)
theorem own_sn692 {Z : State} {a0 : Array Value} (hw : oH Z a0) : oO Z oC0 "delivered" "I" ≠ oO Z oC0 "end" "[I" := slot_ne (Or.inl (oW hw 128 rfl)) (Or.inl (oW hw 70 rfl)) (by decide) (t := .int) (t' := (.array .int)) (by decide) (by decide)
theorem own_sn693 {Z : State} {a0 : Array Value} (hw : oH Z a0) : oO Z oC0 "senders" "[I" ≠ oO Z oC0 "end" "[I" := slot_ne (Or.inl (oW hw 130 rfl)) (Or.inl (oW hw 70 rfl)) (by decide) (t := (.array .int)) (t' := (.array .int)) (by decide) (by decide)
theorem own_sn694 {Z : State} {a0 : Array Value} (hw : oH Z a0) : oO Z oC0 "messages" "[J" ≠ oO Z oC0 "end" "[I" := slot_ne (Or.inl (oW hw 132 rfl)) (Or.inl (oW hw 70 rfl)) (by decide) (t := (.array .long)) (t' := (.array .int)) (by decide) (by decide)
theorem own_sn695 {Z : State} {a0 : Array Value} (hw : oH Z a0) : oO Z oC0 "first" "[I" ≠ oO Z oC0 "end" "[I" := slot_ne (Or.inl (oW hw 134 rfl)) (Or.inl (oW hw 70 rfl)) (by decide) (t := (.array .int)) (t' := (.array .int)) (by decide) (by decide)
theorem own_pd696 : parseMethodDescriptor "(II)I" = some ⟨[.int, .int], some .int⟩ := by decide +kernel
theorem d11_0 : oQ oD31 0 (.iconst 0) 1 := by decide +kernel
theorem d11_1 : oQ oD31 1 (.istore_n 2) 1 := by decide +kernel
theorem d11_2 : oQ oD31 2 (.iload_n 2) 1 := by decide +kernel
theorem d11_3 : oQ oD31 3 (.aload_n 0) 1 := by decide +kernel
theorem d11_4 : oQ oD31 4 (.getfield 36) 3 := by decide +kernel
theorem d11_7 : oQ oD31 7 (.invokevirtual 64) 3 := by decide +kernel
theorem d11_10 : oQ oD31 10 (.if_icmp .ge 58) 3 := by decide +kernel
theorem d11_68 : oQ oD31 68 (.aload_n 0) 1 := by decide +kernel
theorem d11_69 : oQ oD31 69 (.getfield 36) 3 := by decide +kernel
theorem d11_72 : oQ oD31 72 (.invokevirtual 80) 3 := by decide +kernel
theorem d11_75 : oQ oD31 75 (.lconst 0) 1 := by decide +kernel
theorem d11_76 : oQ oD31 76 (.lstore_n 2) 1 := by decide +kernel
theorem d11_77 : oQ oD31 77 (.aload_n 0) 1 := by decide +kernel
theorem d11_78 : oQ oD31 78 (.getfield 21) 3 := by decide +kernel
theorem d11_81 : oQ oD31 81 (.astore 4) 2 := by decide +kernel
theorem d11_83 : oQ oD31 83 (.aload 4) 2 := by decide +kernel
theorem d11_85 : oQ oD31 85 .arraylength 1 := by decide +kernel
theorem d11_86 : oQ oD31 86 (.istore 5) 2 := by decide +kernel
theorem d11_88 : oQ oD31 88 (.iconst 0) 1 := by decide +kernel
theorem d11_89 : oQ oD31 89 (.istore 6) 2 := by decide +kernel
theorem d11_91 : oQ oD31 91 (.iload 6) 2 := by decide +kernel
theorem d11_93 : oQ oD31 93 (.iload 5) 2 := by decide +kernel
theorem d11_95 : oQ oD31 95 (.if_icmp .ge 34) 3 := by decide +kernel
theorem d11_98 : oQ oD31 98 (.aload 4) 2 := by decide +kernel
theorem d11_100 : oQ oD31 100 (.iload 6) 2 := by decide +kernel
theorem d11_102 : oQ oD31 102 .aaload 1 := by decide +kernel
theorem d11_103 : oQ oD31 103 (.astore 7) 2 := by decide +kernel
theorem d11_105 : oQ oD31 105 (.lload_n 2) 1 := by decide +kernel
theorem d11_106 : oQ oD31 106 (.aload 7) 2 := by decide +kernel
theorem d11_108 : oQ oD31 108 (.ifnonnull 7) 3 := by decide +kernel
theorem d11_111 : oQ oD31 111 (.lconst 0) 1 := by decide +kernel
theorem d11_112 : oQ oD31 112 (.goto 9) 3 := by decide +kernel
theorem d11_115 : oQ oD31 115 (.aload 7) 2 := by decide +kernel
theorem d11_117 : oQ oD31 117 (.getfield 83) 3 := by decide +kernel
theorem d11_120 : oQ oD31 120 .i2l 1 := by decide +kernel
theorem d11_121 : oQ oD31 121 .ladd 1 := by decide +kernel
theorem d11_122 : oQ oD31 122 (.lstore_n 2) 1 := by decide +kernel
theorem d11_123 : oQ oD31 123 (.iinc 6 1) 3 := by decide +kernel
theorem d11_126 : oQ oD31 126 (.goto (-35)) 3 := by decide +kernel
theorem d11_129 : oQ oD31 129 (.lload_n 2) 1 := by decide +kernel
theorem d11_130 : oQ oD31 130 (.ldc2_w 86) 3 := by decide +kernel
theorem d11_133 : oQ oD31 133 .lcmp 1 := by decide +kernel
theorem d11_134 : oQ oD31 134 (.ifCond .le 22) 3 := by decide +kernel
theorem d11_156 : oQ oD31 156 (.aload_n 0) 1 := by decide +kernel
theorem d11_157 : oQ oD31 157 (.lload_n 2) 1 := by decide +kernel
theorem d11_158 : oQ oD31 158 .l2i 1 := by decide +kernel
theorem d11_159 : oQ oD31 159 (.putfield 54) 3 := by decide +kernel
theorem d11_162 : oQ oD31 162 (.aload_n 0) 1 := by decide +kernel
theorem d11_163 : oQ oD31 163 .aconst_null 1 := by decide +kernel
theorem d11_164 : oQ oD31 164 (.putfield 57) 3 := by decide +kernel
theorem d11_167 : oQ oD31 167 (.aload_n 0) 1 := by decide +kernel
theorem d11_168 : oQ oD31 168 .aconst_null 1 := by decide +kernel
theorem d11_169 : oQ oD31 169 (.putfield 60) 3 := by decide +kernel
theorem d11_172 : oQ oD31 172 (.lload_n 2) 1 := by decide +kernel
theorem d11_173 : oQ oD31 173 (.lconst 0) 1 := by decide +kernel
theorem d11_174 : oQ oD31 174 .lcmp 1 := by decide +kernel
theorem d11_175 : oQ oD31 175 (.ifCond .ne 5) 3 := by decide +kernel
theorem d11_178 : oQ oD31 178 (.iconst 0) 1 := by decide +kernel
theorem d11_179 : oQ oD31 179 .ireturn 1 := by decide +kernel
theorem d11_180 : oQ oD31 180 (.aload_n 0) 1 := by decide +kernel
theorem d11_181 : oQ oD31 181 (.getfield 47) 3 := by decide +kernel
theorem d11_184 : oQ oD31 184 (.ifnonnull 23) 3 := by decide +kernel
theorem d11_187 : oQ oD31 187 (.aload_n 0) 1 := by decide +kernel
theorem d11_188 : oQ oD31 188 (.aload_n 0) 1 := by decide +kernel
theorem d11_189 : oQ oD31 189 (.getfield 9) 3 := by decide +kernel
theorem d11_192 : oQ oD31 192 (.newarray .int) 2 := by decide +kernel
theorem d11_194 : oQ oD31 194 (.putfield 47) 3 := by decide +kernel
theorem d11_197 : oQ oD31 197 (.aload_n 0) 1 := by decide +kernel
theorem d11_198 : oQ oD31 198 (.aload_n 0) 1 := by decide +kernel
theorem d11_199 : oQ oD31 199 (.getfield 9) 3 := by decide +kernel
theorem d11_202 : oQ oD31 202 (.newarray .int) 2 := by decide +kernel
theorem d11_204 : oQ oD31 204 (.putfield 51) 3 := by decide +kernel
theorem d11_207 : oQ oD31 207 (.aload_n 0) 1 := by decide +kernel
theorem d11_208 : oQ oD31 208 (.getfield 21) 3 := by decide +kernel
theorem d11_211 : oQ oD31 211 (.astore 4) 2 := by decide +kernel
theorem d11_213 : oQ oD31 213 (.aload 4) 2 := by decide +kernel
theorem d11_215 : oQ oD31 215 .arraylength 1 := by decide +kernel
theorem d11_216 : oQ oD31 216 (.istore 5) 2 := by decide +kernel
theorem d11_218 : oQ oD31 218 (.iconst 0) 1 := by decide +kernel
theorem d11_219 : oQ oD31 219 (.istore 6) 2 := by decide +kernel
theorem d11_221 : oQ oD31 221 (.iload 6) 2 := by decide +kernel
theorem d11_223 : oQ oD31 223 (.iload 5) 2 := by decide +kernel
theorem d11_225 : oQ oD31 225 (.if_icmp .ge 70) 3 := by decide +kernel
theorem d11_228 : oQ oD31 228 (.aload 4) 2 := by decide +kernel
theorem d11_230 : oQ oD31 230 (.iload 6) 2 := by decide +kernel
theorem d11_232 : oQ oD31 232 .aaload 1 := by decide +kernel
theorem d11_233 : oQ oD31 233 (.astore 7) 2 := by decide +kernel
theorem d11_235 : oQ oD31 235 (.aload 7) 2 := by decide +kernel
theorem d11_237 : oQ oD31 237 (.ifnull 52) 3 := by decide +kernel
theorem d11_240 : oQ oD31 240 (.iconst 0) 1 := by decide +kernel
theorem d11_241 : oQ oD31 241 (.istore 8) 2 := by decide +kernel
theorem d11_243 : oQ oD31 243 (.iload 8) 2 := by decide +kernel
theorem d11_245 : oQ oD31 245 (.aload 7) 2 := by decide +kernel
theorem d11_247 : oQ oD31 247 (.getfield 83) 3 := by decide +kernel
theorem d11_250 : oQ oD31 250 (.if_icmp .ge 39) 3 := by decide +kernel
theorem d11_253 : oQ oD31 253 (.aload 7) 2 := by decide +kernel
theorem d11_255 : oQ oD31 255 (.getfield 97) 3 := by decide +kernel
theorem d11_258 : oQ oD31 258 (.iload 8) 2 := by decide +kernel
theorem d11_260 : oQ oD31 260 .iaload 1 := by decide +kernel
theorem d11_261 : oQ oD31 261 (.istore 9) 2 := by decide +kernel
theorem d11_263 : oQ oD31 263 (.aload_n 0) 1 := by decide +kernel
theorem d11_264 : oQ oD31 264 (.getfield 51) 3 := by decide +kernel
theorem d11_267 : oQ oD31 267 (.iload 9) 2 := by decide +kernel
theorem d11_269 : oQ oD31 269 .dup2 1 := by decide +kernel
theorem d11_270 : oQ oD31 270 .iaload 1 := by decide +kernel
theorem d11_271 : oQ oD31 271 (.iconst 1) 1 := by decide +kernel
theorem d11_272 : oQ oD31 272 .iadd 1 := by decide +kernel
theorem d11_273 : oQ oD31 273 .iastore 1 := by decide +kernel
theorem d11_274 : oQ oD31 274 (.aload_n 0) 1 := by decide +kernel
theorem d11_275 : oQ oD31 275 (.getfield 36) 3 := by decide +kernel
theorem d11_278 : oQ oD31 278 (.iload 9) 2 := by decide +kernel
theorem d11_280 : oQ oD31 280 (.invokevirtual 99) 3 := by decide +kernel
theorem d11_283 : oQ oD31 283 (.iinc 8 1) 3 := by decide +kernel
theorem d11_286 : oQ oD31 286 (.goto (-43)) 3 := by decide +kernel
theorem d11_289 : oQ oD31 289 (.iinc 6 1) 3 := by decide +kernel
theorem d11_292 : oQ oD31 292 (.goto (-71)) 3 := by decide +kernel
theorem d11_295 : oQ oD31 295 (.aload_n 0) 1 := by decide +kernel
theorem d11_296 : oQ oD31 296 (.getfield 36) 3 := by decide +kernel
theorem d11_299 : oQ oD31 299 (.invokevirtual 101) 3 := by decide +kernel
theorem d11_302 : oQ oD31 302 (.iconst 0) 1 := by decide +kernel
theorem d11_303 : oQ oD31 303 (.istore 4) 2 := by decide +kernel
theorem d11_305 : oQ oD31 305 (.iconst 0) 1 := by decide +kernel
theorem d11_306 : oQ oD31 306 (.istore 5) 2 := by decide +kernel
theorem d11_308 : oQ oD31 308 (.iload 5) 2 := by decide +kernel
theorem d11_310 : oQ oD31 310 (.aload_n 0) 1 := by decide +kernel
theorem d11_311 : oQ oD31 311 (.getfield 36) 3 := by decide +kernel
theorem d11_314 : oQ oD31 314 (.invokevirtual 64) 3 := by decide +kernel
theorem d11_317 : oQ oD31 317 (.if_icmp .ge 95) 3 := by decide +kernel
theorem d11_320 : oQ oD31 320 (.aload_n 0) 1 := by decide +kernel
theorem d11_321 : oQ oD31 321 (.getfield 36) 3 := by decide +kernel
theorem d11_324 : oQ oD31 324 (.iload 5) 2 := by decide +kernel
theorem d11_326 : oQ oD31 326 (.invokevirtual 67) 3 := by decide +kernel
theorem d11_329 : oQ oD31 329 (.istore 6) 2 := by decide +kernel
theorem d11_331 : oQ oD31 331 (.aload_n 0) 1 := by decide +kernel
theorem d11_332 : oQ oD31 332 (.getfield 36) 3 := by decide +kernel
theorem d11_335 : oQ oD31 335 (.iload 6) 2 := by decide +kernel
theorem d11_337 : oQ oD31 337 (.iload 6) 2 := by decide +kernel
theorem d11_339 : oQ oD31 339 (.sipush 1024) 3 := by decide +kernel
theorem d11_342 : oQ oD31 342 .imul 1 := by decide +kernel
theorem d11_343 : oQ oD31 343 (.invokevirtual 104) 3 := by decide +kernel
theorem d11_346 : oQ oD31 346 (.istore 7) 2 := by decide +kernel
theorem d11_348 : oQ oD31 348 (.iload 7) 2 := by decide +kernel
theorem d11_350 : oQ oD31 350 (.ifCond .lt 56) 3 := by decide +kernel
theorem d11_353 : oQ oD31 353 (.aload_n 0) 1 := by decide +kernel
theorem d11_354 : oQ oD31 354 (.getfield 47) 3 := by decide +kernel
theorem d11_357 : oQ oD31 357 (.iload 7) 2 := by decide +kernel
theorem d11_359 : oQ oD31 359 (.iload 4) 2 := by decide +kernel
theorem d11_361 : oQ oD31 361 .iastore 1 := by decide +kernel
theorem d11_362 : oQ oD31 362 (.iload 4) 2 := by decide +kernel
theorem d11_364 : oQ oD31 364 (.aload_n 0) 1 := by decide +kernel
theorem d11_365 : oQ oD31 365 (.getfield 51) 3 := by decide +kernel
theorem d11_368 : oQ oD31 368 (.iload 7) 2 := by decide +kernel
theorem d11_370 : oQ oD31 370 .iaload 1 := by decide +kernel
theorem d11_371 : oQ oD31 371 .iadd 1 := by decide +kernel
theorem d11_372 : oQ oD31 372 (.istore 4) 2 := by decide +kernel
theorem d11_374 : oQ oD31 374 (.aload_n 0) 1 := by decide +kernel
theorem d11_375 : oQ oD31 375 (.getfield 51) 3 := by decide +kernel
theorem d11_378 : oQ oD31 378 (.iload 7) 2 := by decide +kernel
theorem d11_380 : oQ oD31 380 (.aload_n 0) 1 := by decide +kernel
theorem d11_381 : oQ oD31 381 (.getfield 47) 3 := by decide +kernel
theorem d11_384 : oQ oD31 384 (.iload 7) 2 := by decide +kernel
theorem d11_386 : oQ oD31 386 .iaload 1 := by decide +kernel
theorem d11_387 : oQ oD31 387 .iastore 1 := by decide +kernel
theorem d11_388 : oQ oD31 388 (.aload_n 0) 1 := by decide +kernel
theorem d11_389 : oQ oD31 389 (.getfield 36) 3 := by decide +kernel
theorem d11_392 : oQ oD31 392 (.iload 6) 2 := by decide +kernel
theorem d11_394 : oQ oD31 394 (.iload 7) 2 := by decide +kernel
theorem d11_396 : oQ oD31 396 (.iconst 1) 1 := by decide +kernel
theorem d11_397 : oQ oD31 397 .iadd 1 := by decide +kernel
theorem d11_398 : oQ oD31 398 (.invokevirtual 104) 3 := by decide +kernel
theorem d11_401 : oQ oD31 401 (.istore 7) 2 := by decide +kernel
theorem d11_403 : oQ oD31 403 (.goto (-55)) 3 := by decide +kernel
theorem d11_406 : oQ oD31 406 (.iinc 5 1) 3 := by decide +kernel
theorem d11_409 : oQ oD31 409 (.goto (-101)) 3 := by decide +kernel
theorem d11_412 : oQ oD31 412 (.aload_n 0) 1 := by decide +kernel
theorem d11_413 : oQ oD31 413 (.aload_n 0) 1 := by decide +kernel
theorem d11_414 : oQ oD31 414 (.getfield 54) 3 := by decide +kernel
theorem d11_417 : oQ oD31 417 (.newarray .int) 2 := by decide +kernel
theorem d11_419 : oQ oD31 419 (.putfield 57) 3 := by decide +kernel
theorem d11_422 : oQ oD31 422 (.aload_n 0) 1 := by decide +kernel
theorem d11_423 : oQ oD31 423 (.aload_n 0) 1 := by decide +kernel
theorem d11_424 : oQ oD31 424 (.getfield 54) 3 := by decide +kernel
theorem d11_427 : oQ oD31 427 (.newarray .long) 2 := by decide +kernel
theorem d11_429 : oQ oD31 429 (.putfield 60) 3 := by decide +kernel
theorem d11_432 : oQ oD31 432 (.aload_n 0) 1 := by decide +kernel
theorem d11_433 : oQ oD31 433 (.getfield 21) 3 := by decide +kernel
theorem d11_436 : oQ oD31 436 (.astore 5) 2 := by decide +kernel
theorem d11_438 : oQ oD31 438 (.aload 5) 2 := by decide +kernel
theorem d11_440 : oQ oD31 440 .arraylength 1 := by decide +kernel
theorem d11_441 : oQ oD31 441 (.istore 6) 2 := by decide +kernel
theorem d11_443 : oQ oD31 443 (.iconst 0) 1 := by decide +kernel
theorem d11_444 : oQ oD31 444 (.istore 7) 2 := by decide +kernel
theorem d11_446 : oQ oD31 446 (.iload 7) 2 := by decide +kernel
theorem d11_448 : oQ oD31 448 (.iload 6) 2 := by decide +kernel
theorem d11_450 : oQ oD31 450 (.if_icmp .ge 96) 3 := by decide +kernel
theorem d11_453 : oQ oD31 453 (.aload 5) 2 := by decide +kernel
theorem d11_455 : oQ oD31 455 (.iload 7) 2 := by decide +kernel
theorem d11_457 : oQ oD31 457 .aaload 1 := by decide +kernel
theorem d11_458 : oQ oD31 458 (.astore 8) 2 := by decide +kernel
theorem d11_460 : oQ oD31 460 (.aload 8) 2 := by decide +kernel
theorem d11_462 : oQ oD31 462 (.ifnull 78) 3 := by decide +kernel
theorem d11_465 : oQ oD31 465 (.iconst 0) 1 := by decide +kernel
theorem d11_466 : oQ oD31 466 (.istore 9) 2 := by decide +kernel
theorem d11_468 : oQ oD31 468 (.iload 9) 2 := by decide +kernel
theorem d11_470 : oQ oD31 470 (.aload 8) 2 := by decide +kernel
theorem d11_472 : oQ oD31 472 (.getfield 83) 3 := by decide +kernel
theorem d11_475 : oQ oD31 475 (.if_icmp .ge 59) 3 := by decide +kernel
theorem d11_478 : oQ oD31 478 (.aload_n 0) 1 := by decide +kernel
theorem d11_479 : oQ oD31 479 (.getfield 51) 3 := by decide +kernel
theorem d11_482 : oQ oD31 482 (.aload 8) 2 := by decide +kernel
theorem d11_484 : oQ oD31 484 (.getfield 97) 3 := by decide +kernel
theorem d11_487 : oQ oD31 487 (.iload 9) 2 := by decide +kernel
theorem d11_489 : oQ oD31 489 .iaload 1 := by decide +kernel
theorem d11_490 : oQ oD31 490 .dup2 1 := by decide +kernel
theorem d11_491 : oQ oD31 491 .iaload 1 := by decide +kernel
theorem d11_492 : oQ oD31 492 .dup_x2 1 := by decide +kernel
theorem d11_493 : oQ oD31 493 (.iconst 1) 1 := by decide +kernel
theorem d11_494 : oQ oD31 494 .iadd 1 := by decide +kernel
theorem d11_495 : oQ oD31 495 .iastore 1 := by decide +kernel
theorem d11_496 : oQ oD31 496 (.istore 10) 2 := by decide +kernel
theorem d11_498 : oQ oD31 498 (.aload_n 0) 1 := by decide +kernel
theorem d11_499 : oQ oD31 499 (.getfield 57) 3 := by decide +kernel
theorem d11_502 : oQ oD31 502 (.iload 10) 2 := by decide +kernel
theorem d11_504 : oQ oD31 504 (.aload 8) 2 := by decide +kernel
theorem d11_506 : oQ oD31 506 (.getfield 107) 3 := by decide +kernel
theorem d11_509 : oQ oD31 509 (.iload 9) 2 := by decide +kernel
theorem d11_511 : oQ oD31 511 .iaload 1 := by decide +kernel
theorem d11_512 : oQ oD31 512 .iastore 1 := by decide +kernel
theorem d11_513 : oQ oD31 513 (.aload_n 0) 1 := by decide +kernel
theorem d11_514 : oQ oD31 514 (.getfield 60) 3 := by decide +kernel
theorem d11_517 : oQ oD31 517 (.iload 10) 2 := by decide +kernel
theorem d11_519 : oQ oD31 519 (.aload 8) 2 := by decide +kernel
theorem d11_521 : oQ oD31 521 (.getfield 108) 3 := by decide +kernel
theorem d11_524 : oQ oD31 524 (.iload 9) 2 := by decide +kernel
theorem d11_526 : oQ oD31 526 .laload 1 := by decide +kernel
theorem d11_527 : oQ oD31 527 .lastore 1 := by decide +kernel
theorem d11_528 : oQ oD31 528 (.iinc 9 1) 3 := by decide +kernel
theorem d11_531 : oQ oD31 531 (.goto (-63)) 3 := by decide +kernel
theorem d11_534 : oQ oD31 534 (.aload 8) 2 := by decide +kernel
theorem d11_536 : oQ oD31 536 (.iconst 0) 1 := by decide +kernel
theorem d11_537 : oQ oD31 537 (.putfield 83) 3 := by decide +kernel
theorem d11_540 : oQ oD31 540 (.iinc 7 1) 3 := by decide +kernel
theorem d11_543 : oQ oD31 543 (.goto (-97)) 3 := by decide +kernel
theorem d11_546 : oQ oD31 546 (.iconst 1) 1 := by decide +kernel
theorem d11_547 : oQ oD31 547 .ireturn 1 := by decide +kernel
theorem pn_11 : plainName oC0 = true := by first | (simp [plainName, overriddenIn]; done) | decide +kernel
theorem ef_11 (m : MethodId) (r0 : Addr) (p1 : Int32) : entryFrame m #[(.ref r0), (.int p1)] 11 = mkF m 0 #[oR r0, oI p1, oU, oU, oU, oU, oU, oU, oU, oU, oU] [] := by first | (simp [entryFrame, mkF, argsToLocals, Value.category]; done) | rfl
def rm11f_room : Room := { frames := 6, cells := 4, slots := 6152, locals := 105 }
def Qrm11f (Z : State) (r0 : Addr) (p1 : Int32) (n : Int32) (La : List Int32) (Lb : List Int32) (h0 : Heap) (n0 : Nat) (v : Option Value) (h : Heap) (L : List Loc) : Prop := v = some (.int (own_dr La Lb)) ∧ Fr n0 L ∧ h0.size ≤ h.size ∧ own_AMx Z h n0 r0 n (La ++ Lb)
set_option maxRecDepth 65536 in
set_option maxHeartbeats 40000000 in
theorem rm11f (l : Launch) (Z : State) (a0 : Array Value) (hw : oH Z a0) (ws : List Jvm.Cond) (r0 : Addr) (p1 : Int32) (n : Int32) (La : List Int32) (Lb : List Int32) (h0 : Heap) (n0 : Nat) (Z0 : n0 ≤ h0.size) (H : own_AMf Z h0 n0 r0 n La Lb) (hl : La.length + Lb.length ≤ 4) (hm : ∀ r ∈ La ++ Lb, own_in r n) :
    MetFree l oM31 (head1 (Jvm.Cond.code oM31 prog_18_method_9_code 11 (some .boolean) :: ws) rm11f_room) (fun a U => a = #[(.ref r0), (.int p1)] ∧ Z.Warmed39 U.vm ∧ U.heap = h0) (fun _ _ _ _ _ => True) (fun _ U o U' => ∃ v L, o = .returned v ∧ Qrm11f Z r0 p1 n La Lb h0 n0 v U'.heap L ∧ FrameEnd U o U' L rm11f_room.cells rm11f_room.slots) := by
 refine MetFree.of_bodySF (plainFor_of_name pn_11) hisR ?_
 intro p e s m args below meth c s₁ Bd hml0 hP hK
 obtain ⟨rfl, hZ, hh⟩ := hP
 have hx := Bd.exec
 have hby := Bd.bytes
 have hml : c.maxLocals = 11 := hml0
 have hown : s.vm.findClass oC0 = some m.cls := findClass_of_methodNamed Bd.named
 have hnm := (name_of_methodNamed Bd.named Bd.method).1
 have hlk : meth.locks = false := BodyLoose.notSynchronized Bd
 have X0 : Stand p l e rm11f_room s m #[(.ref r0), (.int p1)] below meth c s₁ [] 0 0 := Stand.of_body Bd
 have e0 : s₁.heap = h0 := by rw [← hh, Bd.state]; rfl
 have N0 := Fr.nil n0
 show own_Fin p.tables e below s (Qrm11f Z r0 p1 n La Lb h0 n0) rm11f_room.cells rm11f_room.slots (s₁.setTop (entryFrame m #[(.ref r0), (.int p1)] 11))
 rw [ef_11]
 show oF (s₁.setTop (mkF m 0 #[oR r0, oI p1, oU, oU, oU, oU, oU, oU, oU, oU, oU] []))
 obtain ⟨ob, rv, dl, vS, vM, v0, v1, Da, Db, wd, hd, il, ix, nb, fi, E_r0_0, F_receivers_r0_0, F_outboxes_r0_0, F_recipients_r0_0, F_delivered_r0_0, F_senders_r0_0, F_messages_r0_0, F_first_r0_0, F_end_r0_0, O_ob_0, B_0_0, B_1_0, E_rv_0, F_words_rv_0, F_held_rv_0, F_blocks_rv_0, F_sorted_rv_0, E_il_0, F_indices_il_0, F_size_il_0, A_ix_0, A_wd_0, A_hd_0, ge_r0, ge_rv, ge_wd, ge_hd, ge_il, ge_ix, ge_ob, nb_r0_0, nb_r0_1, nb_rv_0, nb_rv_1, nb_wd_0, nb_wd_1, nb_hd_0, nb_hd_1, nb_il_0, nb_il_1, nb_ix_0, nb_ix_1, nb_ob_0, nb_ob_1, hdj, hn⟩ := H
 have hdk : ∀ x ∈ Db, x ∉ Da := fun x h1 h0 => hdj x h0 h1
 refine own_go (fun _ k => XS.iconst X0.here hx rfl (hb hby d11_0) (XS.istoreN X0.here hx rfl (hb hby d11_1) rfl (l' := #[oR r0, oI p1, oI 0, oU, oU, oU, oU, oU, oU, oU, oU]) rfl (XS.iloadN X0.here hx rfl (hb hby d11_2) rfl (XS.aloadN X0.here hx rfl (hb hby d11_3) rfl rfl k)))) ?_
 obtain ⟨T1, X1, e1, st1⟩ := getF X0 hx hZ hown (host := "") (Or.inl (oW hw 62 rfl)) Via.refl e0 F_recipients_r0_0 (g := (mkF m 4 #[oR r0, oI p1, oI 0, oU, oU, oU, oU, oU, oU, oU, oU] [(.ref r0), (.int 0)])) rfl rfl (hb hby d11_4)
 refine own_go (fun tg k => st1 tg k) ?_
 have cq := isOf hZ e1 E_rv_0
 obtain ⟨cq2, kq2, q2a, q2b, q2c⟩ := cq
 have cq := X1.virtualBack hx (y := oM11) (z := oM11) hown (mvT hZ (oW hw 103 rfl)) (mvT hZ (oW hw 104 rfl)) (notFace_of_selects (args := #[]) (mvT hZ (oW hw 106 rfl))) (mvT hZ (oW hw 106 rfl)) (mvT hZ (oW hw 105 rfl)) (by decide) (backOf (W := 1) (rm12 l Z a0 hw [] rv il (0 : Int32) h0 n0 Z0 F_blocks_rv_0 E_il_0 F_size_il_0) hZ (oW hw 107 rfl) (oW hw 33 rfl) (by decide) (by decide)) q2a q2c (g := (mkF m 7 #[oR r0, oI p1, oI 0, oU, oU, oU, oU, oU, oU, oU, oU] [(.ref rv), (.int 0)])) rfl (by rw [hml]; rfl) (Steps.refl _) (argsL := []) (rest := [(.int 0)]) (lenOf own_pd194 rfl) rfl (by show 2 * 0 + _ ≤ _; exact Nat.le_of_eq rfl) (hb hby d11_7) (fun _ _ => ⟨rfl, e1, (by decide : 0 + 0 ≤ _), (by decide : 0 + 0 ≤ _)⟩)
 obtain ⟨_, _, ⟨T2, L2, k2, n2⟩, -, X2, ⟨Lc2, hQ2, l2, y2, z2⟩, st2⟩ := cq
 dsimp only [Pt.U, Pt.locs, Pt.cells, Pt.slots] at X2 l2 y2 z2 st2 hQ2
 replace y2 : 0 = k2 := y2.symm
 replace z2 : 0 = n2 := z2.symm
 subst y2 z2
 obtain ⟨rfl, N2q, e2⟩ := hQ2
 have N2 : Fr n0 L2 := by rw [l2]; exact Fr.app N0 N2q
 refine own_go (fun tg k => st2.trans k) ?_
 show oF (T2.setTop (mkF m 10 #[oR r0, oI p1, oI 0, oU, oU, oU, oU, oU, oU, oU, oU] [(.int 0), (.int 0)]))
 refine own_go (fun _ k => XS.icmpYes X2.here hx rfl (pc0 := 10) (pc' := 68) rfl (hb hby d11_10) rfl (flt (by decide)).2.1 (by decide) (by decide) k) ?_
 show oF (T2.setTop (mkF m 68 #[oR r0, oI p1, oI 0, oU, oU, oU, oU, oU, oU, oU, oU] []))
 refine own_go (fun _ k => XS.aloadN X2.here hx rfl (hb hby d11_68) rfl rfl k) ?_
 obtain ⟨T3, X3, e3, st3⟩ := getF X2 hx hZ hown (host := "") (Or.inl (oW hw 62 rfl)) Via.refl e2 F_recipients_r0_0 (g := (mkF m 69 #[oR r0, oI p1, oI 0, oU, oU, oU, oU, oU, oU, oU, oU] [(.ref r0)])) rfl rfl (hb hby d11_69)
 refine own_go (fun tg k => st3 tg k) ?_
 have cq := isOf hZ e3 E_rv_0
 obtain ⟨cq4, kq4, q4a, q4b, q4c⟩ := cq
 have cq := X3.virtualBack hx (y := oM16) (z := oM16) hown (mvT hZ (oW hw 115 rfl)) (mvT hZ (oW hw 116 rfl)) (notFace_of_selects (args := #[]) (mvT hZ (oW hw 118 rfl))) (mvT hZ (oW hw 118 rfl)) (mvT hZ (oW hw 117 rfl)) (by decide) (backOf (W := 0) (rm14z l Z a0 hw [] rv wd hd il ix fi h0 n0 Z0 E_rv_0 F_words_rv_0 F_held_rv_0 F_blocks_rv_0 F_sorted_rv_0 E_il_0 F_indices_il_0 F_size_il_0 A_ix_0 ge_rv ge_wd ge_hd ge_il ge_ix) hZ (oW hw 119 rfl) (oW hw 33 rfl) (by decide) (by decide)) q4a q4c (g := (mkF m 72 #[oR r0, oI p1, oI 0, oU, oU, oU, oU, oU, oU, oU, oU] [(.ref rv)])) rfl (by rw [hml]; rfl) (Steps.refl _) (argsL := []) (rest := []) (lenOf own_pd158 rfl) rfl (by show 2 * 0 + _ ≤ _; exact Nat.le_of_eq rfl) (hb hby d11_72) (fun _ _ => ⟨rfl, e3, (by decide : 0 + 0 ≤ _), (by decide : 0 + 0 ≤ _)⟩)
 obtain ⟨_, _, ⟨T4, L4, k4, n4⟩, -, X4, ⟨Lc4, hQ4, l4, y4, z4⟩, st4⟩ := cq
 dsimp only [Pt.U, Pt.locs, Pt.cells, Pt.slots] at X4 l4 y4 z4 st4 hQ4
 replace y4 : 0 = k4 := y4.symm
 replace z4 : 0 = n4 := z4.symm
 subst y4 z4
 obtain ⟨rfl, N4q, Kq4, E_rv_4, F_words_rv_4, F_held_rv_4, F_blocks_rv_4, F_sorted_rv_4, E_il_4, F_indices_il_4, F_size_il_4⟩ := hQ4
 have N4 : Fr n0 L4 := by rw [l4]; exact Fr.app N2 N4q
 have E_r0_4 := E_r0_0.keep Kq4
 have u4_r0 := (ninS (ne_exa E_r0_0 E_rv_0 (by decide)) (ninS (ne_exa E_r0_0 E_il_0 (by decide)) nin0))
 have F_receivers_r0_4 := F_receivers_r0_0.keep Kq4 u4_r0
 have F_outboxes_r0_4 := F_outboxes_r0_0.keep Kq4 u4_r0
 have F_recipients_r0_4 := F_recipients_r0_0.keep Kq4 u4_r0
 have F_delivered_r0_4 := F_delivered_r0_0.keep Kq4 u4_r0
 have F_senders_r0_4 := F_senders_r0_0.keep Kq4 u4_r0
 have F_messages_r0_4 := F_messages_r0_0.keep Kq4 u4_r0
 have F_first_r0_4 := F_first_r0_0.keep Kq4 u4_r0
 have F_end_r0_4 := F_end_r0_0.keep Kq4 u4_r0
 have O_ob_4 := O_ob_0.keep Kq4 (ninS (Ne.symm (own_ne_oa E_rv_0 (oW hw 32 rfl) O_ob_0)) (ninS (Ne.symm (own_ne_oa E_il_0 (oW hw 43 rfl) O_ob_0)) nin0))
 have B_0_4 := B_0_0.keep Kq4 (allS nb_rv_0 (allS nb_il_0 all0))
 have B_1_4 := B_1_0.keep Kq4 (allS nb_rv_1 (allS nb_il_1 all0))
 have A_ix_4 := A_ix_0.keep Kq4 (ninS (Ne.symm (own_ne_arf E_rv_0 (oW hw 32 rfl) A_ix_0)) (ninS (Ne.symm (own_ne_arf E_il_0 (oW hw 43 rfl) A_ix_0)) nin0))
 have A_wd_4 := A_wd_0.keep Kq4 (ninS (Ne.symm (own_ne_arf E_rv_0 (oW hw 32 rfl) A_wd_0)) (ninS (Ne.symm (own_ne_arf E_il_0 (oW hw 43 rfl) A_wd_0)) nin0))
 have A_hd_4 := A_hd_0.keep Kq4 (ninS (Ne.symm (own_ne_arf E_rv_0 (oW hw 32 rfl) A_hd_0)) (ninS (Ne.symm (own_ne_arf E_il_0 (oW hw 43 rfl) A_hd_0)) nin0))
 have Z4 : n0 ≤ T4.heap.size := Nat.le_trans Z0 Kq4.1
 refine own_go (fun tg k => st4.trans k) ?_
 show oF (T4.setTop (mkF m 75 #[oR r0, oI p1, oI 0, oU, oU, oU, oU, oU, oU, oU, oU] []))
 refine own_go (fun _ k => XS.lconst X4.here hx rfl (hb hby d11_75) (XS.lstoreN X4.here hx rfl (hb hby d11_76) rfl (l' := #[oR r0, oI p1, .val (.long (0 : Int64)), oS, oU, oU, oU, oU, oU, oU, oU]) rfl (XS.aloadN X4.here hx rfl (hb hby d11_77) rfl rfl k))) ?_
 obtain ⟨T5, X5, e5, st5⟩ := getF X4 hx hZ hown (host := "") (Or.inl (oW hw 29 rfl)) Via.refl rfl F_outboxes_r0_4 (g := (mkF m 78 #[oR r0, oI p1, .val (.long (0 : Int64)), oS, oU, oU, oU, oU, oU, oU, oU] [(.ref r0)])) rfl rfl (hb hby d11_78)
 refine own_go (fun tg k => st5 tg k) ?_
 refine own_go (fun _ k => XS.astore X5.here hx rfl (hb hby d11_81) rfl rfl (l' := #[oR r0, oI p1, .val (.long (0 : Int64)), oS, oR ob, oU, oU, oU, oU, oU, oU]) rfl (XS.aload X5.here hx rfl (hb hby d11_83) rfl rfl k)) ?_
 refine own_go (fun tg k => own_oalen X5 hx hZ e5 O_ob_4 (g := (mkF m 85 #[oR r0, oI p1, .val (.long (0 : Int64)), oS, oR ob, oU, oU, oU, oU, oU, oU] [(.ref ob)])) rfl rfl (hb hby d11_85) tg k) ?_
 refine own_go (fun _ k => XS.istore X5.here hx rfl (hb hby d11_86) rfl (l' := #[oR r0, oI p1, .val (.long (0 : Int64)), oS, oR ob, oI 2, oU, oU, oU, oU, oU]) rfl (XS.iconst X5.here hx rfl (hb hby d11_88) (XS.istore X5.here hx rfl (hb hby d11_89) rfl (l' := #[oR r0, oI p1, .val (.long (0 : Int64)), oS, oR ob, oI 2, oI 0, oU, oU, oU, oU]) rfl (XS.iload X5.here hx rfl (hb hby d11_91) rfl (XS.iload X5.here hx rfl (hb hby d11_93) rfl (XS.icmpNo X5.here hx rfl (hb hby d11_95) rfl (tlt (by decide)).2.1 (XS.aload X5.here hx rfl (hb hby d11_98) rfl rfl (XS.iload X5.here hx rfl (hb hby d11_100) rfl k)))))))) ?_
 refine own_go (fun tg k => own_oald X5 hx hZ e5 O_ob_4 (v := v0) (Or.inl ⟨rfl, rfl⟩) (g := (mkF m 102 #[oR r0, oI p1, .val (.long (0 : Int64)), oS, oR ob, oI 2, oI 0, oU, oU, oU, oU] [(.int 0), (.ref ob)])) rfl rfl (hb hby d11_102) tg k) ?_
 show oF (T5.setTop (mkF m 103 #[oR r0, oI p1, .val (.long (0 : Int64)), oS, oR ob, oI 2, oI 0, oU, oU, oU, oU] [v0]))
 have hk6 : ∀ (T6L : State) (L6L : List Loc) (h6L : Heap) (j76 : Slot), Stand p l e rm11f_room s m #[(.ref r0), (.int p1)] below meth c T6L L6L 0 0 → Fr n0 L6L → T6L.heap = h6L → One j76 → n0 ≤ h6L.size → Exa Z h6L r0 oC0 → Fld Z h6L r0 oC0 "receivers" "I" (.int n) → Fld Z h6L r0 oC0 "outboxes" oC4 (.ref ob) → Fld Z h6L r0 oC0 "recipients" oC6 (.ref rv) → Fld Z h6L r0 oC0 "delivered" "I" (.int dl) → Fld Z h6L r0 oC0 "senders" "[I" vS → Fld Z h6L r0 oC0 "messages" "[J" vM → Fld Z h6L r0 oC0 "first" "[I" .null → Fld Z h6L r0 oC0 "end" "[I" .null → own_Oa Z h6L ob oC2 v0 v1 → own_Box Z h6L n0 v0 Da La → own_Box Z h6L n0 v1 Db Lb → Exa Z h6L rv oC1 → Fld Z h6L rv oC1 "words" "[J" (.ref wd) → Fld Z h6L rv oC1 "held" "[Z" (.ref hd) → Fld Z h6L rv oC1 "blocks" oC5 (.ref il) → Fld Z h6L rv oC1 "sorted" "Z" (.int 1) → Exa Z h6L il oC3 → Fld Z h6L il oC3 "indices" "[I" (.ref ix) → Fld Z h6L il oC3 "size" "I" (.int 0) → own_Arf Z h6L ix .int (16 : Int32) (fun i => .int (fi i)) → own_Arf Z h6L wd .long (nb * (16 : Int32)) (fun i => .long ((fun _ => (0 : Int64)) i)) → own_Arf Z h6L hd .boolean nb (fun i => .int ((fun _ => (0 : Int32)) i)) → own_Fin p.tables e below s (Qrm11f Z r0 p1 n La Lb h0 n0) rm11f_room.cells rm11f_room.slots (T6L.setTop (mkF m 123 #[oR r0, oI p1, .val (.long (own_tot (0 : Int64) La)), oS, oR ob, oI 2, oI 0, j76, oU, oU, oU] [])) := by
  intro T6L L6L h6L j76 X6L N6L e6L hj76 Z6L E_r0_6L F_receivers_r0_6L F_outboxes_r0_6L F_recipients_r0_6L F_delivered_r0_6L F_senders_r0_6L F_messages_r0_6L F_first_r0_6L F_end_r0_6L O_ob_6L B_0_6L B_1_6L E_rv_6L F_words_rv_6L F_held_rv_6L F_blocks_rv_6L F_sorted_rv_6L E_il_6L F_indices_il_6L F_size_il_6L A_ix_6L A_wd_6L A_hd_6L
  show oF (T6L.setTop (mkF m 123 #[oR r0, oI p1, .val (.long (own_tot (0 : Int64) La)), oS, oR ob, oI 2, oI 0, j76, oU, oU, oU] []))
  refine own_go (fun _ k => XS.iinc X6L.here hx rfl (hb hby d11_123) rfl (l' := #[oR r0, oI p1, .val (.long (own_tot (0 : Int64) La)), oS, oR ob, oI 2, oI 1, j76, oU, oU, oU]) rfl k) ?_
  show oF (T6L.setTop (mkF m 126 #[oR r0, oI p1, .val (.long (own_tot (0 : Int64) La)), oS, oR ob, oI 2, oI 1, j76, oU, oU, oU] []))
  refine own_go (fun _ k => XS.goto X6L.here hx rfl (pc0 := 126) (pc' := 91) rfl (hb hby d11_126) (by decide) (by decide) (XS.iload X6L.here hx rfl (hb hby d11_91) rfl (XS.iload X6L.here hx rfl (hb hby d11_93) rfl (XS.icmpNo X6L.here hx rfl (hb hby d11_95) rfl (tlt (by decide)).2.1 (XS.aload X6L.here hx rfl (hb hby d11_98) rfl rfl (XS.iload X6L.here hx rfl (hb hby d11_100) rfl k)))))) ?_
  refine own_go (fun tg k => own_oald X6L hx hZ e6L O_ob_6L (v := v1) (Or.inr ⟨rfl, rfl⟩) (g := (mkF m 102 #[oR r0, oI p1, .val (.long (own_tot (0 : Int64) La)), oS, oR ob, oI 2, oI 1, j76, oU, oU, oU] [(.int 1), (.ref ob)])) rfl rfl (hb hby d11_102) tg k) ?_
  show oF (T6L.setTop (mkF m 103 #[oR r0, oI p1, .val (.long (own_tot (0 : Int64) La)), oS, oR ob, oI 2, oI 1, j76, oU, oU, oU] [v1]))
  have hk7 : ∀ (T7L : State) (L7L : List Loc) (h7L : Heap) (j77 : Slot), Stand p l e rm11f_room s m #[(.ref r0), (.int p1)] below meth c T7L L7L 0 0 → Fr n0 L7L → T7L.heap = h7L → One j77 → n0 ≤ h7L.size → Exa Z h7L r0 oC0 → Fld Z h7L r0 oC0 "receivers" "I" (.int n) → Fld Z h7L r0 oC0 "outboxes" oC4 (.ref ob) → Fld Z h7L r0 oC0 "recipients" oC6 (.ref rv) → Fld Z h7L r0 oC0 "delivered" "I" (.int dl) → Fld Z h7L r0 oC0 "senders" "[I" vS → Fld Z h7L r0 oC0 "messages" "[J" vM → Fld Z h7L r0 oC0 "first" "[I" .null → Fld Z h7L r0 oC0 "end" "[I" .null → own_Oa Z h7L ob oC2 v0 v1 → own_Box Z h7L n0 v0 Da La → own_Box Z h7L n0 v1 Db Lb → Exa Z h7L rv oC1 → Fld Z h7L rv oC1 "words" "[J" (.ref wd) → Fld Z h7L rv oC1 "held" "[Z" (.ref hd) → Fld Z h7L rv oC1 "blocks" oC5 (.ref il) → Fld Z h7L rv oC1 "sorted" "Z" (.int 1) → Exa Z h7L il oC3 → Fld Z h7L il oC3 "indices" "[I" (.ref ix) → Fld Z h7L il oC3 "size" "I" (.int 0) → own_Arf Z h7L ix .int (16 : Int32) (fun i => .int (fi i)) → own_Arf Z h7L wd .long (nb * (16 : Int32)) (fun i => .long ((fun _ => (0 : Int64)) i)) → own_Arf Z h7L hd .boolean nb (fun i => .int ((fun _ => (0 : Int32)) i)) → own_Fin p.tables e below s (Qrm11f Z r0 p1 n La Lb h0 n0) rm11f_room.cells rm11f_room.slots (T7L.setTop (mkF m 123 #[oR r0, oI p1, .val (.long (own_tot (own_tot (0 : Int64) La) Lb)), oS, oR ob, oI 2, oI 1, j77, oU, oU, oU] [])) := by
   intro T7L L7L h7L j77 X7L N7L e7L hj77 Z7L E_r0_7L F_receivers_r0_7L F_outboxes_r0_7L F_recipients_r0_7L F_delivered_r0_7L F_senders_r0_7L F_messages_r0_7L F_first_r0_7L F_end_r0_7L O_ob_7L B_0_7L B_1_7L E_rv_7L F_words_rv_7L F_held_rv_7L F_blocks_rv_7L F_sorted_rv_7L E_il_7L F_indices_il_7L F_size_il_7L A_ix_7L A_wd_7L A_hd_7L
   show oF (T7L.setTop (mkF m 123 #[oR r0, oI p1, .val (.long (own_tot (own_tot (0 : Int64) La) Lb)), oS, oR ob, oI 2, oI 1, j77, oU, oU, oU] []))
   refine own_go (fun _ k => XS.iinc X7L.here hx rfl (hb hby d11_123) rfl (l' := #[oR r0, oI p1, .val (.long (own_tot (own_tot (0 : Int64) La) Lb)), oS, oR ob, oI 2, oI 2, j77, oU, oU, oU]) rfl k) ?_
   show oF (T7L.setTop (mkF m 126 #[oR r0, oI p1, .val (.long (own_tot (own_tot (0 : Int64) La) Lb)), oS, oR ob, oI 2, oI 2, j77, oU, oU, oU] []))
   refine own_go (fun _ k => XS.goto X7L.here hx rfl (pc0 := 126) (pc' := 91) rfl (hb hby d11_126) (by decide) (by decide) (XS.iload X7L.here hx rfl (hb hby d11_91) rfl (XS.iload X7L.here hx rfl (hb hby d11_93) rfl (XS.icmpYes X7L.here hx rfl (pc0 := 95) (pc' := 129) rfl (hb hby d11_95) rfl (flt (by decide)).2.1 (by decide) (by decide) k)))) ?_
   show oF (T7L.setTop (mkF m 129 #[oR r0, oI p1, .val (.long (own_tot (own_tot (0 : Int64) La) Lb)), oS, oR ob, oI 2, oI 2, j77, oU, oU, oU] []))
   refine own_go (fun _ k => XS.lloadN X7L.here hx rfl (hb hby d11_129) rfl k) ?_
   refine own_go (fun _ k => X7L.ldc2Long hx hown (mvT hZ (oW hw 126 rfl)) (g := (mkF m 130 #[oR r0, oI p1, .val (.long (own_tot (own_tot (0 : Int64) La) Lb)), oS, oR ob, oI 2, oI 2, j77, oU, oU, oU] [(.long (own_tot (own_tot (0 : Int64) La) Lb))])) rfl (hb hby d11_130) _ k) ?_
   refine own_go (fun _ k => XS.lcmp X7L.here hx rfl (hb hby d11_133) rfl k) ?_
   show oF (T7L.setTop (mkF m 134 #[oR r0, oI p1, .val (.long (own_tot (own_tot (0 : Int64) La) Lb)), oS, oR ob, oI 2, oI 2, j77, oU, oU, oU] [(.int (lcmpW (own_tot (own_tot (0 : Int64) La) Lb) (2147483639 : Int64)))]))
   have hc134 : ¬ ((2147483639 : Int64) < (own_tot (own_tot (0 : Int64) La) Lb)) := (own_totm hl)
   refine own_go (fun _ k => XS.ifYes X7L.here hx rfl (pc0 := 134) (pc' := 156) rfl (hb hby d11_134) rfl ((if0 _ _).trans (flt (mt (lw_gt _ _).mp hc134)).2.2.2) (by decide) (by decide) (XS.aloadN X7L.here hx rfl (hb hby d11_156) rfl rfl (XS.lloadN X7L.here hx rfl (hb hby d11_157) rfl (XS.l2i X7L.here hx rfl (hb hby d11_158) rfl k)))) ?_
   show oF (T7L.setTop (mkF m 159 #[oR r0, oI p1, .val (.long (own_tot (own_tot (0 : Int64) La) Lb)), oS, oR ob, oI 2, oI 2, j77, oU, oU, oU] [(.int ((own_tot (own_tot (0 : Int64) La) Lb).toInt32)), (.ref r0)]))
   obtain ⟨T8, h8, X8, e8, W8, st8⟩ := putF X7L hx hZ hown (host := "") (Or.inl (oW hw 127 rfl)) Via.refl e7L F_delivered_r0_7L E_r0_7L (Or.inl (oW hw 128 rfl)) (oW hw 7 rfl) (ty := .int) (by decide) rfl rfl (g := (mkF m 159 #[oR r0, oI p1, .val (.long (own_tot (own_tot (0 : Int64) La) Lb)), oS, oR ob, oI 2, oI 2, j77, oU, oU, oU] [(.int ((own_tot (own_tot (0 : Int64) La) Lb).toInt32)), (.ref r0)])) rfl rfl (hb hby d11_159)
   have E_r0_8 := E_r0_7L.wr W8
   have F_receivers_r0_8 := F_receivers_r0_7L.other W8 (Or.inr (own_sn661 hw))
   have F_outboxes_r0_8 := F_outboxes_r0_7L.other W8 (Or.inr (own_sn662 hw))
   have F_recipients_r0_8 := F_recipients_r0_7L.other W8 (Or.inr (own_sn663 hw))
   have F_senders_r0_8 := F_senders_r0_7L.other W8 (Or.inr (own_sn664 hw))
   have F_messages_r0_8 := F_messages_r0_7L.other W8 (Or.inr (own_sn665 hw))
   have F_first_r0_8 := F_first_r0_7L.other W8 (Or.inr (own_sn666 hw))
   have F_end_r0_8 := F_end_r0_7L.other W8 (Or.inr (own_sn667 hw))
   have O_ob_8 := O_ob_7L.other W8 (Ne.symm (own_ne_oa E_r0_7L (oW hw 7 rfl) O_ob_7L))
   have B_0_8 := B_0_7L.other W8 nb_r0_0
   have B_1_8 := B_1_7L.other W8 nb_r0_1
   have E_rv_8 := E_rv_7L.wr W8
   have u8_rv := (ne_exa E_rv_7L E_r0_7L (by decide))
   have F_words_rv_8 := F_words_rv_7L.other W8 (Or.inl u8_rv)
   have F_held_rv_8 := F_held_rv_7L.other W8 (Or.inl u8_rv)
   have F_blocks_rv_8 := F_blocks_rv_7L.other W8 (Or.inl u8_rv)
   have F_sorted_rv_8 := F_sorted_rv_7L.other W8 (Or.inl u8_rv)
   have E_il_8 := E_il_7L.wr W8
   have u8_il := (ne_exa E_il_7L E_r0_7L (by decide))
   have F_indices_il_8 := F_indices_il_7L.other W8 (Or.inl u8_il)
   have F_size_il_8 := F_size_il_7L.other W8 (Or.inl u8_il)
   have A_ix_8 := A_ix_7L.other W8 (Ne.symm (own_ne_arf E_r0_7L (oW hw 7 rfl) A_ix_7L))
   have A_wd_8 := A_wd_7L.other W8 (Ne.symm (own_ne_arf E_r0_7L (oW hw 7 rfl) A_wd_7L))
   have A_hd_8 := A_hd_7L.other W8 (Ne.symm (own_ne_arf E_r0_7L (oW hw 7 rfl) A_hd_7L))
   have N8 := Fr.snoc X8 N7L ge_r0
   have Z8 : n0 ≤ h8.size := Nat.le_trans Z7L (Keep.of_wr W8).1
   have F_delivered_r0_8 := F_delivered_r0_7L.same W8
   refine own_go (fun tg k => st8 tg k) ?_
   refine own_go (fun _ k => XS.aloadN X8.here hx rfl (hb hby d11_162) rfl rfl (XS.aconstNull X8.here hx rfl (hb hby d11_163) k)) ?_
   obtain ⟨T9, h9, X9, e9, W9, st9⟩ := putF X8 hx hZ hown (host := "") (Or.inl (oW hw 129 rfl)) Via.refl e8 F_senders_r0_8 E_r0_8 (Or.inl (oW hw 130 rfl)) (oW hw 7 rfl) (ty := (.array .int)) (by decide) rfl rfl (g := (mkF m 164 #[oR r0, oI p1, .val (.long (own_tot (own_tot (0 : Int64) La) Lb)), oS, oR ob, oI 2, oI 2, j77, oU, oU, oU] [.null, (.ref r0)])) rfl rfl (hb hby d11_164)
   have E_r0_9 := E_r0_8.wr W9
   have F_receivers_r0_9 := F_receivers_r0_8.other W9 (Or.inr (own_sn668 hw))
   have F_outboxes_r0_9 := F_outboxes_r0_8.other W9 (Or.inr (own_sn669 hw))
   have F_recipients_r0_9 := F_recipients_r0_8.other W9 (Or.inr (own_sn670 hw))
   have F_delivered_r0_9 := F_delivered_r0_8.other W9 (Or.inr (own_sn671 hw))
   have F_messages_r0_9 := F_messages_r0_8.other W9 (Or.inr (own_sn672 hw))
   have F_first_r0_9 := F_first_r0_8.other W9 (Or.inr (own_sn673 hw))
   have F_end_r0_9 := F_end_r0_8.other W9 (Or.inr (own_sn674 hw))
   have O_ob_9 := O_ob_8.other W9 (Ne.symm (own_ne_oa E_r0_8 (oW hw 7 rfl) O_ob_8))
   have B_0_9 := B_0_8.other W9 nb_r0_0
   have B_1_9 := B_1_8.other W9 nb_r0_1
   have E_rv_9 := E_rv_8.wr W9
   have u9_rv := (ne_exa E_rv_8 E_r0_8 (by decide))
   have F_words_rv_9 := F_words_rv_8.other W9 (Or.inl u9_rv)
   have F_held_rv_9 := F_held_rv_8.other W9 (Or.inl u9_rv)
   have F_blocks_rv_9 := F_blocks_rv_8.other W9 (Or.inl u9_rv)
   have F_sorted_rv_9 := F_sorted_rv_8.other W9 (Or.inl u9_rv)
   have E_il_9 := E_il_8.wr W9
   have u9_il := (ne_exa E_il_8 E_r0_8 (by decide))
   have F_indices_il_9 := F_indices_il_8.other W9 (Or.inl u9_il)
   have F_size_il_9 := F_size_il_8.other W9 (Or.inl u9_il)
   have A_ix_9 := A_ix_8.other W9 (Ne.symm (own_ne_arf E_r0_8 (oW hw 7 rfl) A_ix_8))
   have A_wd_9 := A_wd_8.other W9 (Ne.symm (own_ne_arf E_r0_8 (oW hw 7 rfl) A_wd_8))
   have A_hd_9 := A_hd_8.other W9 (Ne.symm (own_ne_arf E_r0_8 (oW hw 7 rfl) A_hd_8))
   have N9 := Fr.snoc X9 N8 ge_r0
   have Z9 : n0 ≤ h9.size := Nat.le_trans Z8 (Keep.of_wr W9).1
   have F_senders_r0_9 := F_senders_r0_8.same W9
   refine own_go (fun tg k => st9 tg k) ?_
   refine own_go (fun _ k => XS.aloadN X9.here hx rfl (hb hby d11_167) rfl rfl (XS.aconstNull X9.here hx rfl (hb hby d11_168) k)) ?_
   obtain ⟨T10, h10, X10, e10, W10, st10⟩ := putF X9 hx hZ hown (host := "") (Or.inl (oW hw 131 rfl)) Via.refl e9 F_messages_r0_9 E_r0_9 (Or.inl (oW hw 132 rfl)) (oW hw 7 rfl) (ty := (.array .long)) (by decide) rfl rfl (g := (mkF m 169 #[oR r0, oI p1, .val (.long (own_tot (own_tot (0 : Int64) La) Lb)), oS, oR ob, oI 2, oI 2, j77, oU, oU, oU] [.null, (.ref r0)])) rfl rfl (hb hby d11_169)
   have E_r0_10 := E_r0_9.wr W10
   have F_receivers_r0_10 := F_receivers_r0_9.other W10 (Or.inr (own_sn675 hw))
   have F_outboxes_r0_10 := F_outboxes_r0_9.other W10 (Or.inr (own_sn676 hw))
   have F_recipients_r0_10 := F_recipients_r0_9.other W10 (Or.inr (own_sn677 hw))
   have F_delivered_r0_10 := F_delivered_r0_9.other W10 (Or.inr (own_sn678 hw))
   have F_senders_r0_10 := F_senders_r0_9.other W10 (Or.inr (own_sn679 hw))
   have F_first_r0_10 := F_first_r0_9.other W10 (Or.inr (own_sn680 hw))
   have F_end_r0_10 := F_end_r0_9.other W10 (Or.inr (own_sn681 hw))
   have O_ob_10 := O_ob_9.other W10 (Ne.symm (own_ne_oa E_r0_9 (oW hw 7 rfl) O_ob_9))
   have B_0_10 := B_0_9.other W10 nb_r0_0
   have B_1_10 := B_1_9.other W10 nb_r0_1
   have E_rv_10 := E_rv_9.wr W10
   have u10_rv := (ne_exa E_rv_9 E_r0_9 (by decide))
   have F_words_rv_10 := F_words_rv_9.other W10 (Or.inl u10_rv)
   have F_held_rv_10 := F_held_rv_9.other W10 (Or.inl u10_rv)
   have F_blocks_rv_10 := F_blocks_rv_9.other W10 (Or.inl u10_rv)
   have F_sorted_rv_10 := F_sorted_rv_9.other W10 (Or.inl u10_rv)
   have E_il_10 := E_il_9.wr W10
   have u10_il := (ne_exa E_il_9 E_r0_9 (by decide))
   have F_indices_il_10 := F_indices_il_9.other W10 (Or.inl u10_il)
   have F_size_il_10 := F_size_il_9.other W10 (Or.inl u10_il)
   have A_ix_10 := A_ix_9.other W10 (Ne.symm (own_ne_arf E_r0_9 (oW hw 7 rfl) A_ix_9))
   have A_wd_10 := A_wd_9.other W10 (Ne.symm (own_ne_arf E_r0_9 (oW hw 7 rfl) A_wd_9))
   have A_hd_10 := A_hd_9.other W10 (Ne.symm (own_ne_arf E_r0_9 (oW hw 7 rfl) A_hd_9))
   have N10 := Fr.snoc X10 N9 ge_r0
   have Z10 : n0 ≤ h10.size := Nat.le_trans Z9 (Keep.of_wr W10).1
   have F_messages_r0_10 := F_messages_r0_9.same W10
   refine own_go (fun tg k => st10 tg k) ?_
   refine own_go (fun _ k => XS.lloadN X10.here hx rfl (hb hby d11_172) rfl (XS.lconst X10.here hx rfl (hb hby d11_173) (XS.lcmp X10.here hx rfl (hb hby d11_174) rfl k))) ?_
   show oF (T10.setTop (mkF m 175 #[oR r0, oI p1, .val (.long (own_tot (own_tot (0 : Int64) La) Lb)), oS, oR ob, oI 2, oI 2, j77, oU, oU, oU] [(.int (lcmpW (own_tot (own_tot (0 : Int64) La) Lb) (0 : Int64)))]))
   by_cases hc11 : (own_tot (own_tot (0 : Int64) La) Lb) = (0 : Int64)
   ·refine own_go (fun _ k => XS.ifNo X10.here hx rfl (hb hby d11_175) rfl ((if0 _ _).trans (teq ((lw_eq _ _).mpr hc11)).2) k) ?_
    show oF (T10.setTop (mkF m 178 #[oR r0, oI p1, .val (.long (own_tot (own_tot (0 : Int64) La) Lb)), oS, oR ob, oI 2, oI 2, j77, oU, oU, oU] []))
    refine own_go (fun _ k => XS.iconst X10.here hx rfl (hb hby d11_178) k) ?_
    refine own_ret X10 hx hlk Bd.returns rfl (Or.inl ⟨rfl, by simp, _, rfl⟩) (hb hby d11_179) (Nat.le_of_ble_eq_true rfl) (Nat.le_of_ble_eq_true rfl) ?_
    rw [e10]
    refine ⟨?_, N10, (by have q : s.heap.size ≤ T10.heap.size := X10.same.2.1; rw [hh, e10] at q; exact q), ?_⟩
    · rw [(own_dr0 hl hc11).2]; rfl
    · first | (exact Or.inl ⟨⟨ob, rv, ((own_tot (own_tot (0 : Int64) La) Lb).toInt32), .null, .null, v0, v1, Da, Db, wd, hd, il, ix, nb, fi, E_r0_10, F_receivers_r0_10, F_outboxes_r0_10, F_recipients_r0_10, F_delivered_r0_10, F_senders_r0_10, F_messages_r0_10, F_first_r0_10, F_end_r0_10, O_ob_10, (by have q := B_0_10; rw [(List.append_eq_nil_iff.mp (own_dr0 hl hc11).1).1] at q; exact q), (by have q := B_1_10; rw [(List.append_eq_nil_iff.mp (own_dr0 hl hc11).1).2] at q; exact q), E_rv_10, F_words_rv_10, F_held_rv_10, F_blocks_rv_10, F_sorted_rv_10, E_il_10, F_indices_il_10, F_size_il_10, A_ix_10, A_wd_10, A_hd_10, ge_r0, ge_rv, ge_wd, ge_hd, ge_il, ge_ix, ge_ob, nb_r0_0, nb_r0_1, nb_rv_0, nb_rv_1, nb_wd_0, nb_wd_1, nb_hd_0, nb_hd_1, nb_il_0, nb_il_1, nb_ix_0, nb_ix_1, nb_ob_0, nb_ob_1, hdj, hn⟩, (own_dr0 hl hc11).1⟩) | (simp only [if_pos hc11]; exact Or.inl ⟨⟨ob, rv, ((own_tot (own_tot (0 : Int64) La) Lb).toInt32), .null, .null, v0, v1, Da, Db, wd, hd, il, ix, nb, fi, E_r0_10, F_receivers_r0_10, F_outboxes_r0_10, F_recipients_r0_10, F_delivered_r0_10, F_senders_r0_10, F_messages_r0_10, F_first_r0_10, F_end_r0_10, O_ob_10, (by have q := B_0_10; rw [(List.append_eq_nil_iff.mp (own_dr0 hl hc11).1).1] at q; exact q), (by have q := B_1_10; rw [(List.append_eq_nil_iff.mp (own_dr0 hl hc11).1).2] at q; exact q), E_rv_10, F_words_rv_10, F_held_rv_10, F_blocks_rv_10, F_sorted_rv_10, E_il_10, F_indices_il_10, F_size_il_10, A_ix_10, A_wd_10, A_hd_10, ge_r0, ge_rv, ge_wd, ge_hd, ge_il, ge_ix, ge_ob, nb_r0_0, nb_r0_1, nb_rv_0, nb_rv_1, nb_wd_0, nb_wd_1, nb_hd_0, nb_hd_1, nb_il_0, nb_il_1, nb_ix_0, nb_ix_1, nb_ob_0, nb_ob_1, hdj, hn⟩, (own_dr0 hl hc11).1⟩)
   ·refine own_go (fun _ k => XS.ifYes X10.here hx rfl (pc0 := 175) (pc' := 180) rfl (hb hby d11_175) rfl ((if0 _ _).trans (feq (mt (lw_eq _ _).mp hc11)).2) (by decide) (by decide) k) ?_
    show oF (T10.setTop (mkF m 180 #[oR r0, oI p1, .val (.long (own_tot (own_tot (0 : Int64) La) Lb)), oS, oR ob, oI 2, oI 2, j77, oU, oU, oU] []))
    refine own_go (fun _ k => XS.aloadN X10.here hx rfl (hb hby d11_180) rfl rfl k) ?_
    obtain ⟨T12, X12, e12, st12⟩ := getF X10 hx hZ hown (host := "") (Or.inl (oW hw 133 rfl)) Via.refl e10 F_first_r0_10 (g := (mkF m 181 #[oR r0, oI p1, .val (.long (own_tot (own_tot (0 : Int64) La) Lb)), oS, oR ob, oI 2, oI 2, j77, oU, oU, oU] [(.ref r0)])) rfl rfl (hb hby d11_181)
    refine own_go (fun tg k => st12 tg k) ?_
    refine own_go (fun _ k => XS.ifnonnullNo X12.here hx rfl (hb hby d11_184) rfl (XS.aloadN X12.here hx rfl (hb hby d11_187) rfl rfl (XS.aloadN X12.here hx rfl (hb hby d11_188) rfl rfl k))) ?_
    obtain ⟨T13, X13, e13, st13⟩ := getF X12 hx hZ hown (host := "") (Or.inl (oW hw 23 rfl)) Via.refl e12 F_receivers_r0_10 (g := (mkF m 189 #[oR r0, oI p1, .val (.long (own_tot (own_tot (0 : Int64) La) Lb)), oS, oR ob, oI 2, oI 2, j77, oU, oU, oU] [(.ref r0), (.ref r0)])) rfl rfl (hb hby d11_189)
    refine own_go (fun tg k => st13 tg k) ?_
    obtain ⟨T14, h14, k14, X14, e14, E14, A14, st14⟩ := newP X13 hx hZ (oW hw 49 rfl) e13 (g := (mkF m 192 #[oR r0, oI p1, .val (.long (own_tot (own_tot (0 : Int64) La) Lb)), oS, oR ob, oI 2, oI 2, j77, oU, oU, oU] [(.int n), (.ref r0)])) rfl (hb hby d11_192) rfl (own_nlt hn).2 (cap := 3072) (own_nlt hn).1 (by decide) (by decide) (by decide)
    obtain ⟨b14, g14⟩ : ∃ z, z = h10.size := ⟨_, rfl⟩
    rw [← g14] at A14 st14
    have ne_r0_b14 : r0 ≠ b14 := Nat.ne_of_lt (Nat.lt_of_lt_of_le E_r0_10.lt (Nat.le_of_eq g14.symm))
    have ne_ob_b14 : ob ≠ b14 := Nat.ne_of_lt (Nat.lt_of_lt_of_le O_ob_10.lt (Nat.le_of_eq g14.symm))
    have ne_rv_b14 : rv ≠ b14 := Nat.ne_of_lt (Nat.lt_of_lt_of_le E_rv_10.lt (Nat.le_of_eq g14.symm))
    have ne_il_b14 : il ≠ b14 := Nat.ne_of_lt (Nat.lt_of_lt_of_le E_il_10.lt (Nat.le_of_eq g14.symm))
    have ne_ix_b14 : ix ≠ b14 := Nat.ne_of_lt (Nat.lt_of_lt_of_le A_ix_10.lt (Nat.le_of_eq g14.symm))
    have ne_wd_b14 : wd ≠ b14 := Nat.ne_of_lt (Nat.lt_of_lt_of_le A_wd_10.lt (Nat.le_of_eq g14.symm))
    have ne_hd_b14 : hd ≠ b14 := Nat.ne_of_lt (Nat.lt_of_lt_of_le A_hd_10.lt (Nat.le_of_eq g14.symm))
    have nb_b14_0 : b14 ∉ Da := B_0_10.nin (Nat.le_of_eq g14.symm)
    have nb_b14_1 : b14 ∉ Db := B_1_10.nin (Nat.le_of_eq g14.symm)
    have ge_b14 : n0 ≤ b14 := Nat.le_trans Z10 (Nat.le_of_eq g14.symm)
    have E_r0_14 := E_r0_10.ext E14
    have F_receivers_r0_14 := F_receivers_r0_10.ext E14
    have F_outboxes_r0_14 := F_outboxes_r0_10.ext E14
    have F_recipients_r0_14 := F_recipients_r0_10.ext E14
    have F_delivered_r0_14 := F_delivered_r0_10.ext E14
    have F_senders_r0_14 := F_senders_r0_10.ext E14
    have F_messages_r0_14 := F_messages_r0_10.ext E14
    have F_first_r0_14 := F_first_r0_10.ext E14
    have F_end_r0_14 := F_end_r0_10.ext E14
    have O_ob_14 := O_ob_10.ext E14
    have B_0_14 := B_0_10.ext E14
    have B_1_14 := B_1_10.ext E14
    have E_rv_14 := E_rv_10.ext E14
    have F_words_rv_14 := F_words_rv_10.ext E14
    have F_held_rv_14 := F_held_rv_10.ext E14
    have F_blocks_rv_14 := F_blocks_rv_10.ext E14
    have F_sorted_rv_14 := F_sorted_rv_10.ext E14
    have E_il_14 := E_il_10.ext E14
    have F_indices_il_14 := F_indices_il_10.ext E14
    have F_size_il_14 := F_size_il_10.ext E14
    have A_ix_14 := A_ix_10.ext E14
    have A_wd_14 := A_wd_10.ext E14
    have A_hd_14 := A_hd_10.ext E14
    have Z14 : n0 ≤ h14.size := Nat.le_trans Z10 E14.1
    have A_b14_14 : own_Arf Z h14 b14 .int n (fun i => .int ((fun _ => (0 : Int32)) i)) := own_Arf.new A14 (own_nlt hn).2
    refine own_go (fun tg k => st14 tg k) ?_
    obtain ⟨T15, h15, X15, e15, W15, st15⟩ := putF X14 hx hZ hown (host := "") (Or.inl (oW hw 133 rfl)) Via.refl e14 F_first_r0_14 E_r0_14 (Or.inl (oW hw 134 rfl)) (oW hw 7 rfl) (ty := (.array .int)) (by decide) rfl rfl (g := (mkF m 194 #[oR r0, oI p1, .val (.long (own_tot (own_tot (0 : Int64) La) Lb)), oS, oR ob, oI 2, oI 2, j77, oU, oU, oU] [(.ref b14), (.ref r0)])) rfl rfl (hb hby d11_194)
    have E_r0_15 := E_r0_14.wr W15
    have F_receivers_r0_15 := F_receivers_r0_14.other W15 (Or.inr (own_sn682 hw))
    have F_outboxes_r0_15 := F_outboxes_r0_14.other W15 (Or.inr (own_sn683 hw))
    have F_recipients_r0_15 := F_recipients_r0_14.other W15 (Or.inr (own_sn684 hw))
    have F_delivered_r0_15 := F_delivered_r0_14.other W15 (Or.inr (own_sn685 hw))
    have F_senders_r0_15 := F_senders_r0_14.other W15 (Or.inr (own_sn686 hw))
    have F_messages_r0_15 := F_messages_r0_14.other W15 (Or.inr (own_sn687 hw))
    have F_end_r0_15 := F_end_r0_14.other W15 (Or.inr (own_sn688 hw))
    have O_ob_15 := O_ob_14.other W15 (Ne.symm (own_ne_oa E_r0_14 (oW hw 7 rfl) O_ob_14))
    have B_0_15 := B_0_14.other W15 nb_r0_0
    have B_1_15 := B_1_14.other W15 nb_r0_1
    have E_rv_15 := E_rv_14.wr W15
    have u15_rv := (ne_exa E_rv_14 E_r0_14 (by decide))
    have F_words_rv_15 := F_words_rv_14.other W15 (Or.inl u15_rv)
    have F_held_rv_15 := F_held_rv_14.other W15 (Or.inl u15_rv)
    have F_blocks_rv_15 := F_blocks_rv_14.other W15 (Or.inl u15_rv)
    have F_sorted_rv_15 := F_sorted_rv_14.other W15 (Or.inl u15_rv)
    have E_il_15 := E_il_14.wr W15
    have u15_il := (ne_exa E_il_14 E_r0_14 (by decide))
    have F_indices_il_15 := F_indices_il_14.other W15 (Or.inl u15_il)
    have F_size_il_15 := F_size_il_14.other W15 (Or.inl u15_il)
    have A_ix_15 := A_ix_14.other W15 (Ne.symm (own_ne_arf E_r0_14 (oW hw 7 rfl) A_ix_14))
    have A_wd_15 := A_wd_14.other W15 (Ne.symm (own_ne_arf E_r0_14 (oW hw 7 rfl) A_wd_14))
    have A_hd_15 := A_hd_14.other W15 (Ne.symm (own_ne_arf E_r0_14 (oW hw 7 rfl) A_hd_14))
    have A_b14_15 := A_b14_14.other W15 (Ne.symm ne_r0_b14)
    have N15 := Fr.snoc X15 N10 ge_r0
    have Z15 : n0 ≤ h15.size := Nat.le_trans Z14 (Keep.of_wr W15).1
    have F_first_r0_15 := F_first_r0_14.same W15
    refine own_go (fun tg k => st15 tg k) ?_
    refine own_go (fun _ k => XS.aloadN X15.here hx rfl (hb hby d11_197) rfl rfl (XS.aloadN X15.here hx rfl (hb hby d11_198) rfl rfl k)) ?_
    obtain ⟨T16, X16, e16, st16⟩ := getF X15 hx hZ hown (host := "") (Or.inl (oW hw 23 rfl)) Via.refl e15 F_receivers_r0_15 (g := (mkF m 199 #[oR r0, oI p1, .val (.long (own_tot (own_tot (0 : Int64) La) Lb)), oS, oR ob, oI 2, oI 2, j77, oU, oU, oU] [(.ref r0), (.ref r0)])) rfl rfl (hb hby d11_199)
    refine own_go (fun tg k => st16 tg k) ?_
    obtain ⟨T17, h17, k17, X17, e17, E17, A17, st17⟩ := newP X16 hx hZ (oW hw 49 rfl) e16 (g := (mkF m 202 #[oR r0, oI p1, .val (.long (own_tot (own_tot (0 : Int64) La) Lb)), oS, oR ob, oI 2, oI 2, j77, oU, oU, oU] [(.int n), (.ref r0)])) rfl (hb hby d11_202) rfl (own_nlt hn).2 (cap := 3072) (own_nlt hn).1 (by decide) (by decide) (by decide)
    obtain ⟨b17, g17⟩ : ∃ z, z = h15.size := ⟨_, rfl⟩
    rw [← g17] at A17 st17
    have ne_r0_b17 : r0 ≠ b17 := Nat.ne_of_lt (Nat.lt_of_lt_of_le E_r0_15.lt (Nat.le_of_eq g17.symm))
    have ne_ob_b17 : ob ≠ b17 := Nat.ne_of_lt (Nat.lt_of_lt_of_le O_ob_15.lt (Nat.le_of_eq g17.symm))
    have ne_rv_b17 : rv ≠ b17 := Nat.ne_of_lt (Nat.lt_of_lt_of_le E_rv_15.lt (Nat.le_of_eq g17.symm))
    have ne_il_b17 : il ≠ b17 := Nat.ne_of_lt (Nat.lt_of_lt_of_le E_il_15.lt (Nat.le_of_eq g17.symm))
    have ne_ix_b17 : ix ≠ b17 := Nat.ne_of_lt (Nat.lt_of_lt_of_le A_ix_15.lt (Nat.le_of_eq g17.symm))
    have ne_wd_b17 : wd ≠ b17 := Nat.ne_of_lt (Nat.lt_of_lt_of_le A_wd_15.lt (Nat.le_of_eq g17.symm))
    have ne_hd_b17 : hd ≠ b17 := Nat.ne_of_lt (Nat.lt_of_lt_of_le A_hd_15.lt (Nat.le_of_eq g17.symm))
    have ne_b14_b17 : b14 ≠ b17 := Nat.ne_of_lt (Nat.lt_of_lt_of_le A_b14_15.lt (Nat.le_of_eq g17.symm))
    have nb_b17_0 : b17 ∉ Da := B_0_15.nin (Nat.le_of_eq g17.symm)
    have nb_b17_1 : b17 ∉ Db := B_1_15.nin (Nat.le_of_eq g17.symm)
    have ge_b17 : n0 ≤ b17 := Nat.le_trans Z15 (Nat.le_of_eq g17.symm)
    have E_r0_17 := E_r0_15.ext E17
    have F_receivers_r0_17 := F_receivers_r0_15.ext E17
    have F_outboxes_r0_17 := F_outboxes_r0_15.ext E17
    have F_recipients_r0_17 := F_recipients_r0_15.ext E17
    have F_delivered_r0_17 := F_delivered_r0_15.ext E17
    have F_senders_r0_17 := F_senders_r0_15.ext E17
    have F_messages_r0_17 := F_messages_r0_15.ext E17
    have F_first_r0_17 := F_first_r0_15.ext E17
    have F_end_r0_17 := F_end_r0_15.ext E17
    have O_ob_17 := O_ob_15.ext E17
    have B_0_17 := B_0_15.ext E17
    have B_1_17 := B_1_15.ext E17
    have E_rv_17 := E_rv_15.ext E17
    have F_words_rv_17 := F_words_rv_15.ext E17
    have F_held_rv_17 := F_held_rv_15.ext E17
    have F_blocks_rv_17 := F_blocks_rv_15.ext E17
    have F_sorted_rv_17 := F_sorted_rv_15.ext E17
    have E_il_17 := E_il_15.ext E17
    have F_indices_il_17 := F_indices_il_15.ext E17
    have F_size_il_17 := F_size_il_15.ext E17
    have A_ix_17 := A_ix_15.ext E17
    have A_wd_17 := A_wd_15.ext E17
    have A_hd_17 := A_hd_15.ext E17
    have A_b14_17 := A_b14_15.ext E17
    have Z17 : n0 ≤ h17.size := Nat.le_trans Z15 E17.1
    have A_b17_17 : own_Arf Z h17 b17 .int n (fun i => .int ((fun _ => (0 : Int32)) i)) := own_Arf.new A17 (own_nlt hn).2
    refine own_go (fun tg k => st17 tg k) ?_
    obtain ⟨T18, h18, X18, e18, W18, st18⟩ := putF X17 hx hZ hown (host := "") (Or.inl (oW hw 69 rfl)) Via.refl e17 F_end_r0_17 E_r0_17 (Or.inl (oW hw 70 rfl)) (oW hw 7 rfl) (ty := (.array .int)) (by decide) rfl rfl (g := (mkF m 204 #[oR r0, oI p1, .val (.long (own_tot (own_tot (0 : Int64) La) Lb)), oS, oR ob, oI 2, oI 2, j77, oU, oU, oU] [(.ref b17), (.ref r0)])) rfl rfl (hb hby d11_204)
    have E_r0_18 := E_r0_17.wr W18
    have F_receivers_r0_18 := F_receivers_r0_17.other W18 (Or.inr (own_sn689 hw))
    have F_outboxes_r0_18 := F_outboxes_r0_17.other W18 (Or.inr (own_sn690 hw))
    have F_recipients_r0_18 := F_recipients_r0_17.other W18 (Or.inr (own_sn691 hw))
    have F_delivered_r0_18 := F_delivered_r0_17.other W18 (Or.inr (own_sn692 hw))
    have F_senders_r0_18 := F_senders_r0_17.other W18 (Or.inr (own_sn693 hw))
    have F_messages_r0_18 := F_messages_r0_17.other W18 (Or.inr (own_sn694 hw))
    have F_first_r0_18 := F_first_r0_17.other W18 (Or.inr (own_sn695 hw))
    have O_ob_18 := O_ob_17.other W18 (Ne.symm (own_ne_oa E_r0_17 (oW hw 7 rfl) O_ob_17))
    have B_0_18 := B_0_17.other W18 nb_r0_0
    have B_1_18 := B_1_17.other W18 nb_r0_1
    have E_rv_18 := E_rv_17.wr W18
    have u18_rv := (ne_exa E_rv_17 E_r0_17 (by decide))
    have F_words_rv_18 := F_words_rv_17.other W18 (Or.inl u18_rv)
    have F_held_rv_18 := F_held_rv_17.other W18 (Or.inl u18_rv)
    have F_blocks_rv_18 := F_blocks_rv_17.other W18 (Or.inl u18_rv)
    have F_sorted_rv_18 := F_sorted_rv_17.other W18 (Or.inl u18_rv)
    have E_il_18 := E_il_17.wr W18
    have u18_il := (ne_exa E_il_17 E_r0_17 (by decide))
    have F_indices_il_18 := F_indices_il_17.other W18 (Or.inl u18_il)
    have F_size_il_18 := F_size_il_17.other W18 (Or.inl u18_il)
    have A_ix_18 := A_ix_17.other W18 (Ne.symm (own_ne_arf E_r0_17 (oW hw 7 rfl) A_ix_17))
    have A_wd_18 := A_wd_17.other W18 (Ne.symm (own_ne_arf E_r0_17 (oW hw 7 rfl) A_wd_17))
    have A_hd_18 := A_hd_17.other W18 (Ne.symm (own_ne_arf E_r0_17 (oW hw 7 rfl) A_hd_17))
    have A_b14_18 := A_b14_17.other W18 (Ne.symm ne_r0_b14)
    have A_b17_18 := A_b17_17.other W18 (Ne.symm ne_r0_b17)
    have N18 := Fr.snoc X18 N15 ge_r0
    have Z18 : n0 ≤ h18.size := Nat.le_trans Z17 (Keep.of_wr W18).1
    have F_end_r0_18 := F_end_r0_17.same W18
    refine own_go (fun tg k => st18 tg k) ?_
    show oF (T18.setTop (mkF m 207 #[oR r0, oI p1, .val (.long (own_tot (own_tot (0 : Int64) La) Lb)), oS, oR ob, oI 2, oI 2, j77, oU, oU, oU] []))
    refine own_go (fun _ k => XS.aloadN X18.here hx rfl (hb hby d11_207) rfl rfl k) ?_
    obtain ⟨T19, X19, e19, st19⟩ := getF X18 hx hZ hown (host := "") (Or.inl (oW hw 29 rfl)) Via.refl e18 F_outboxes_r0_18 (g := (mkF m 208 #[oR r0, oI p1, .val (.long (own_tot (own_tot (0 : Int64) La) Lb)), oS, oR ob, oI 2, oI 2, j77, oU, oU, oU] [(.ref r0)])) rfl rfl (hb hby d11_208)
    refine own_go (fun tg k => st19 tg k) ?_
    refine own_go (fun _ k => XS.astore X19.here hx rfl (hb hby d11_211) rfl rfl (l' := #[oR r0, oI p1, .val (.long (own_tot (own_tot (0 : Int64) La) Lb)), oS, oR ob, oI 2, oI 2, j77, oU, oU, oU]) rfl k) ?_
    show oF (T19.setTop (mkF m 213 #[oR r0, oI p1, .val (.long (own_tot (own_tot (0 : Int64) La) Lb)), oS, oR ob, oI 2, oI 2, j77, oU, oU, oU] []))
    refine own_go (fun _ k => XS.aload X19.here hx rfl (hb hby d11_213) rfl rfl k) ?_
    refine own_go (fun tg k => own_oalen X19 hx hZ e19 O_ob_18 (g := (mkF m 215 #[oR r0, oI p1, .val (.long (own_tot (own_tot (0 : Int64) La) Lb)), oS, oR ob, oI 2, oI 2, j77, oU, oU, oU] [(.ref ob)])) rfl rfl (hb hby d11_215) tg k) ?_
    refine own_go (fun _ k => XS.istore X19.here hx rfl (hb hby d11_216) rfl (l' := #[oR r0, oI p1, .val (.long (own_tot (own_tot (0 : Int64) La) Lb)), oS, oR ob, oI 2, oI 2, j77, oU, oU, oU]) rfl (XS.iconst X19.here hx rfl (hb hby d11_218) (XS.istore X19.here hx rfl (hb hby d11_219) rfl (l' := #[oR r0, oI p1, .val (.long (own_tot (own_tot (0 : Int64) La) Lb)), oS, oR ob, oI 2, oI 0, j77, oU, oU, oU]) rfl (XS.iload X19.here hx rfl (hb hby d11_221) rfl (XS.iload X19.here hx rfl (hb hby d11_223) rfl (XS.icmpNo X19.here hx rfl (hb hby d11_225) rfl (tlt (by decide)).2.1 (XS.aload X19.here hx rfl (hb hby d11_228) rfl rfl (XS.iload X19.here hx rfl (hb hby d11_230) rfl k)))))))) ?_
    refine own_go (fun tg k => own_oald X19 hx hZ e19 O_ob_18 (v := v0) (Or.inl ⟨rfl, rfl⟩) (g := (mkF m 232 #[oR r0, oI p1, .val (.long (own_tot (own_tot (0 : Int64) La) Lb)), oS, oR ob, oI 2, oI 0, j77, oU, oU, oU] [(.int 0), (.ref ob)])) rfl rfl (hb hby d11_232) tg k) ?_
    show oF (T19.setTop (mkF m 233 #[oR r0, oI p1, .val (.long (own_tot (own_tot (0 : Int64) La) Lb)), oS, oR ob, oI 2, oI 0, j77, oU, oU, oU] [v0]))
    have hk20 : ∀ (T20L : State) (L20L : List Loc) (h20L : Heap) (j720 : Slot) (j820 : Slot) (j920 : Slot), Stand p l e rm11f_room s m #[(.ref r0), (.int p1)] below meth c T20L L20L 2 6144 → Fr n0 L20L → T20L.heap = h20L → One j720 → One j820 → One j920 → n0 ≤ h20L.size → Exa Z h20L r0 oC0 → Fld Z h20L r0 oC0 "receivers" "I" (.int n) → Fld Z h20L r0 oC0 "outboxes" oC4 (.ref ob) → Fld Z h20L r0 oC0 "recipients" oC6 (.ref rv) → Fld Z h20L r0 oC0 "delivered" "I" (.int ((own_tot (own_tot (0 : Int64) La) Lb).toInt32)) → Fld Z h20L r0 oC0 "senders" "[I" .null → Fld Z h20L r0 oC0 "messages" "[J" .null → Fld Z h20L r0 oC0 "first" "[I" (.ref b14) → Fld Z h20L r0 oC0 "end" "[I" (.ref b17) → own_Oa Z h20L ob oC2 v0 v1 → own_Box Z h20L n0 v0 Da La → own_Box Z h20L n0 v1 Db Lb → Exa Z h20L rv oC1 → Fld Z h20L rv oC1 "words" "[J" (.ref wd) → Fld Z h20L rv oC1 "held" "[Z" (.ref hd) → Fld Z h20L rv oC1 "blocks" oC5 (.ref il) → Fld Z h20L rv oC1 "sorted" "Z" (.int (own_adds (own_v0 fi) La).s_) → Exa Z h20L il oC3 → Fld Z h20L il oC3 "indices" "[I" (.ref ix) → Fld Z h20L il oC3 "size" "I" (.int (own_adds (own_v0 fi) La).k_) → own_Arf Z h20L ix .int (16 : Int32) (fun i => .int ((own_adds (own_v0 fi) La).f_ i)) → own_Arf Z h20L wd .long (nb * (16 : Int32)) (fun i => .long ((own_adds (own_v0 fi) La).w_ i)) → own_Arf Z h20L hd .boolean nb (fun i => .int ((own_adds (own_v0 fi) La).h_ i)) → own_Arf Z h20L b14 .int n (fun i => .int ((fun _ => (0 : Int32)) i)) → own_Arf Z h20L b17 .int n (fun i => .int ((own_cnt (fun _ => (0 : Int32)) La) i)) → own_Fin p.tables e below s (Qrm11f Z r0 p1 n La Lb h0 n0) rm11f_room.cells rm11f_room.slots (T20L.setTop (mkF m 289 #[oR r0, oI p1, .val (.long (own_tot (own_tot (0 : Int64) La) Lb)), oS, oR ob, oI 2, oI 0, j720, j820, j920, oU] [])) := by
     intro T20L L20L h20L j720 j820 j920 X20L N20L e20L hj720 hj820 hj920 Z20L E_r0_20L F_receivers_r0_20L F_outboxes_r0_20L F_recipients_r0_20L F_delivered_r0_20L F_senders_r0_20L F_messages_r0_20L F_first_r0_20L F_end_r0_20L O_ob_20L B_0_20L B_1_20L E_rv_20L F_words_rv_20L F_held_rv_20L F_blocks_rv_20L F_sorted_rv_20L E_il_20L F_indices_il_20L F_size_il_20L A_ix_20L A_wd_20L A_hd_20L A_b14_20L A_b17_20L
     show oF (T20L.setTop (mkF m 289 #[oR r0, oI p1, .val (.long (own_tot (own_tot (0 : Int64) La) Lb)), oS, oR ob, oI 2, oI 0, j720, j820, j920, oU] []))
     refine own_go (fun _ k => XS.iinc X20L.here hx rfl (hb hby d11_289) rfl (l' := #[oR r0, oI p1, .val (.long (own_tot (own_tot (0 : Int64) La) Lb)), oS, oR ob, oI 2, oI 1, j720, j820, j920, oU]) rfl k) ?_
     show oF (T20L.setTop (mkF m 292 #[oR r0, oI p1, .val (.long (own_tot (own_tot (0 : Int64) La) Lb)), oS, oR ob, oI 2, oI 1, j720, j820, j920, oU] []))
     refine own_go (fun _ k => XS.goto X20L.here hx rfl (pc0 := 292) (pc' := 221) rfl (hb hby d11_292) (by decide) (by decide) (XS.iload X20L.here hx rfl (hb hby d11_221) rfl (XS.iload X20L.here hx rfl (hb hby d11_223) rfl (XS.icmpNo X20L.here hx rfl (hb hby d11_225) rfl (tlt (by decide)).2.1 (XS.aload X20L.here hx rfl (hb hby d11_228) rfl rfl (XS.iload X20L.here hx rfl (hb hby d11_230) rfl k)))))) ?_
     refine own_go (fun tg k => own_oald X20L hx hZ e20L O_ob_20L (v := v1) (Or.inr ⟨rfl, rfl⟩) (g := (mkF m 232 #[oR r0, oI p1, .val (.long (own_tot (own_tot (0 : Int64) La) Lb)), oS, oR ob, oI 2, oI 1, j720, j820, j920, oU] [(.int 1), (.ref ob)])) rfl rfl (hb hby d11_232) tg k) ?_
     show oF (T20L.setTop (mkF m 233 #[oR r0, oI p1, .val (.long (own_tot (own_tot (0 : Int64) La) Lb)), oS, oR ob, oI 2, oI 1, j720, j820, j920, oU] [v1]))
     have hk21 : ∀ (T21L : State) (L21L : List Loc) (h21L : Heap) (j721 : Slot) (j821 : Slot) (j921 : Slot), Stand p l e rm11f_room s m #[(.ref r0), (.int p1)] below meth c T21L L21L 2 6144 → Fr n0 L21L → T21L.heap = h21L → One j721 → One j821 → One j921 → n0 ≤ h21L.size → Exa Z h21L r0 oC0 → Fld Z h21L r0 oC0 "receivers" "I" (.int n) → Fld Z h21L r0 oC0 "outboxes" oC4 (.ref ob) → Fld Z h21L r0 oC0 "recipients" oC6 (.ref rv) → Fld Z h21L r0 oC0 "delivered" "I" (.int ((own_tot (own_tot (0 : Int64) La) Lb).toInt32)) → Fld Z h21L r0 oC0 "senders" "[I" .null → Fld Z h21L r0 oC0 "messages" "[J" .null → Fld Z h21L r0 oC0 "first" "[I" (.ref b14) → Fld Z h21L r0 oC0 "end" "[I" (.ref b17) → own_Oa Z h21L ob oC2 v0 v1 → own_Box Z h21L n0 v0 Da La → own_Box Z h21L n0 v1 Db Lb → Exa Z h21L rv oC1 → Fld Z h21L rv oC1 "words" "[J" (.ref wd) → Fld Z h21L rv oC1 "held" "[Z" (.ref hd) → Fld Z h21L rv oC1 "blocks" oC5 (.ref il) → Fld Z h21L rv oC1 "sorted" "Z" (.int (own_adds (own_adds (own_v0 fi) La) Lb).s_) → Exa Z h21L il oC3 → Fld Z h21L il oC3 "indices" "[I" (.ref ix) → Fld Z h21L il oC3 "size" "I" (.int (own_adds (own_adds (own_v0 fi) La) Lb).k_) → own_Arf Z h21L ix .int (16 : Int32) (fun i => .int ((own_adds (own_adds (own_v0 fi) La) Lb).f_ i)) → own_Arf Z h21L wd .long (nb * (16 : Int32)) (fun i => .long ((own_adds (own_adds (own_v0 fi) La) Lb).w_ i)) → own_Arf Z h21L hd .boolean nb (fun i => .int ((own_adds (own_adds (own_v0 fi) La) Lb).h_ i)) → own_Arf Z h21L b14 .int n (fun i => .int ((fun _ => (0 : Int32)) i)) → own_Arf Z h21L b17 .int n (fun i => .int ((own_cnt (own_cnt (fun _ => (0 : Int32)) La) Lb) i)) → own_Fin p.tables e below s (Qrm11f Z r0 p1 n La Lb h0 n0) rm11f_room.cells rm11f_room.slots (T21L.setTop (mkF m 289 #[oR r0, oI p1, .val (.long (own_tot (own_tot (0 : Int64) La) Lb)), oS, oR ob, oI 2, oI 1, j721, j821, j921, oU] [])) := by
      intro T21L L21L h21L j721 j821 j921 X21L N21L e21L hj721 hj821 hj921 Z21L E_r0_21L F_receivers_r0_21L F_outboxes_r0_21L F_recipients_r0_21L F_delivered_r0_21L F_senders_r0_21L F_messages_r0_21L F_first_r0_21L F_end_r0_21L O_ob_21L B_0_21L B_1_21L E_rv_21L F_words_rv_21L F_held_rv_21L F_blocks_rv_21L F_sorted_rv_21L E_il_21L F_indices_il_21L F_size_il_21L A_ix_21L A_wd_21L A_hd_21L A_b14_21L A_b17_21L
      show oF (T21L.setTop (mkF m 289 #[oR r0, oI p1, .val (.long (own_tot (own_tot (0 : Int64) La) Lb)), oS, oR ob, oI 2, oI 1, j721, j821, j921, oU] []))
      refine own_go (fun _ k => XS.iinc X21L.here hx rfl (hb hby d11_289) rfl (l' := #[oR r0, oI p1, .val (.long (own_tot (own_tot (0 : Int64) La) Lb)), oS, oR ob, oI 2, oI 2, j721, j821, j921, oU]) rfl k) ?_
      show oF (T21L.setTop (mkF m 292 #[oR r0, oI p1, .val (.long (own_tot (own_tot (0 : Int64) La) Lb)), oS, oR ob, oI 2, oI 2, j721, j821, j921, oU] []))
      refine own_go (fun _ k => XS.goto X21L.here hx rfl (pc0 := 292) (pc' := 221) rfl (hb hby d11_292) (by decide) (by decide) (XS.iload X21L.here hx rfl (hb hby d11_221) rfl (XS.iload X21L.here hx rfl (hb hby d11_223) rfl (XS.icmpYes X21L.here hx rfl (pc0 := 225) (pc' := 295) rfl (hb hby d11_225) rfl (flt (by decide)).2.1 (by decide) (by decide) k)))) ?_
      show oF (T21L.setTop (mkF m 295 #[oR r0, oI p1, .val (.long (own_tot (own_tot (0 : Int64) La) Lb)), oS, oR ob, oI 2, oI 2, j721, j821, j921, oU] []))
      refine own_go (fun _ k => XS.aloadN X21L.here hx rfl (hb hby d11_295) rfl rfl k) ?_
      obtain ⟨T22, X22, e22, st22⟩ := getF X21L hx hZ hown (host := "") (Or.inl (oW hw 62 rfl)) Via.refl e21L F_recipients_r0_21L (g := (mkF m 296 #[oR r0, oI p1, .val (.long (own_tot (own_tot (0 : Int64) La) Lb)), oS, oR ob, oI 2, oI 2, j721, j821, j921, oU] [(.ref r0)])) rfl rfl (hb hby d11_296)
      refine own_go (fun tg k => st22 tg k) ?_
      have cq := isOf hZ e22 E_rv_21L
      obtain ⟨cq23, kq23, q23a, q23b, q23c⟩ := cq
      have cq := X22.virtualBack hx (y := oM24) (z := oM24) hown (mvT hZ (oW hw 150 rfl)) (mvT hZ (oW hw 151 rfl)) (notFace_of_selects (args := #[]) (mvT hZ (oW hw 153 rfl))) (mvT hZ (oW hw 153 rfl)) (mvT hZ (oW hw 152 rfl)) (by decide) (backOf (W := 0) (rm19 l Z a0 hw [] rv wd hd il ix (own_adds (own_adds (own_v0 fi) La) Lb) (La ++ Lb) h21L n0 Z21L E_rv_21L F_words_rv_21L F_held_rv_21L F_blocks_rv_21L F_sorted_rv_21L E_il_21L F_indices_il_21L F_size_il_21L A_ix_21L ge_rv ge_ix (own_BLx fi hn hm).1) hZ (oW hw 154 rfl) (oW hw 33 rfl) (by decide) (by decide)) q23a q23c (g := (mkF m 299 #[oR r0, oI p1, .val (.long (own_tot (own_tot (0 : Int64) La) Lb)), oS, oR ob, oI 2, oI 2, j721, j821, j921, oU] [(.ref rv)])) rfl (by rw [hml]; rfl) (Steps.refl _) (argsL := []) (rest := []) (lenOf own_pd158 rfl) rfl (by show 2 * 0 + _ ≤ _; exact Nat.le_of_eq rfl) (hb hby d11_299) (fun _ _ => ⟨rfl, e22, (by decide : 2 + 0 ≤ _), (by decide : 6144 + 0 ≤ _)⟩)
      obtain ⟨_, _, ⟨T23, L23, k23, n23⟩, -, X23, ⟨Lc23, hQ23, l23, y23, z23⟩, st23⟩ := cq
      dsimp only [Pt.U, Pt.locs, Pt.cells, Pt.slots] at X23 l23 y23 z23 st23 hQ23
      replace y23 : 2 = k23 := y23.symm
      replace z23 : 6144 = n23 := z23.symm
      subst y23 z23
      obtain ⟨gx23, rfl, N23q, Kq23, E_rv_23, F_words_rv_23, F_held_rv_23, F_blocks_rv_23, F_sorted_rv_23, E_il_23, F_indices_il_23, F_size_il_23, A_ix_23, Pq23_9⟩ := hQ23
      have N23 : Fr n0 L23 := by rw [l23]; exact Fr.app N21L N23q
      have E_r0_23 := E_r0_21L.keep Kq23
      have u23_r0 := (ninS (ne_exa E_r0_21L E_rv_21L (by decide)) (ninS (own_ne_arf E_r0_21L (oW hw 7 rfl) A_ix_21L) nin0))
      have F_receivers_r0_23 := F_receivers_r0_21L.keep Kq23 u23_r0
      have F_outboxes_r0_23 := F_outboxes_r0_21L.keep Kq23 u23_r0
      have F_recipients_r0_23 := F_recipients_r0_21L.keep Kq23 u23_r0
      have F_delivered_r0_23 := F_delivered_r0_21L.keep Kq23 u23_r0
      have F_senders_r0_23 := F_senders_r0_21L.keep Kq23 u23_r0
      have F_messages_r0_23 := F_messages_r0_21L.keep Kq23 u23_r0
      have F_first_r0_23 := F_first_r0_21L.keep Kq23 u23_r0
      have F_end_r0_23 := F_end_r0_21L.keep Kq23 u23_r0
      have O_ob_23 := O_ob_21L.keep Kq23 (ninS (Ne.symm (own_ne_oa E_rv_21L (oW hw 32 rfl) O_ob_21L)) (ninS (Ne.symm (own_ne_oarf A_ix_21L O_ob_21L (by decide))) nin0))
      have B_0_23 := B_0_21L.keep Kq23 (allS nb_rv_0 (allS nb_ix_0 all0))
      have B_1_23 := B_1_21L.keep Kq23 (allS nb_rv_1 (allS nb_ix_1 all0))
      have A_wd_23 := A_wd_21L.keep Kq23 (ninS (Ne.symm (own_ne_arf E_rv_21L (oW hw 32 rfl) A_wd_21L)) (ninS (own_ne_ty A_wd_21L A_ix_21L (by decide)) nin0))
      have A_hd_23 := A_hd_21L.keep Kq23 (ninS (Ne.symm (own_ne_arf E_rv_21L (oW hw 32 rfl) A_hd_21L)) (ninS (own_ne_ty A_hd_21L A_ix_21L (by decide)) nin0))
      have A_b14_23 := A_b14_21L.keep Kq23 (ninS (Ne.symm ne_rv_b14) (ninS (Ne.symm ne_ix_b14) nin0))
      have A_b17_23 := A_b17_21L.keep Kq23 (ninS (Ne.symm ne_rv_b17) (ninS (Ne.symm ne_ix_b17) nin0))
      have Z23 : n0 ≤ T23.heap.size := Nat.le_trans Z21L Kq23.1
      refine own_go (fun tg k => st23.trans k) ?_
      show oF (T23.setTop (mkF m 302 #[oR r0, oI p1, .val (.long (own_tot (own_tot (0 : Int64) La) Lb)), oS, oR ob, oI 2, oI 2, j721, j821, j921, oU] []))
      refine own_go (fun _ k => XS.iconst X23.here hx rfl (hb hby d11_302) (XS.istore X23.here hx rfl (hb hby d11_303) rfl (l' := #[oR r0, oI p1, .val (.long (own_tot (own_tot (0 : Int64) La) Lb)), oS, oI 0, oI 2, oI 2, j721, j821, j921, oU]) rfl (XS.iconst X23.here hx rfl (hb hby d11_305) (XS.istore X23.here hx rfl (hb hby d11_306) rfl (l' := #[oR r0, oI p1, .val (.long (own_tot (own_tot (0 : Int64) La) Lb)), oS, oI 0, oI 0, oI 2, j721, j821, j921, oU]) rfl k)))) ?_
      show oF (T23.setTop (mkF m 308 #[oR r0, oI p1, .val (.long (own_tot (own_tot (0 : Int64) La) Lb)), oS, oI 0, oI 0, oI 2, j721, j821, j921, oU] []))
      have loopO : ∀ (kO : Nat) (i : Int32) (ps : Int32) (fF : Nat → Int32) (eF : Nat → Int32) (TOL : State) (LOL : List Loc) (hOL : Heap) (j6O : Slot) (j7O : Slot), kO = (8 - i.toInt).toNat → own_SO (La ++ Lb) n (own_adds (own_adds (own_v0 fi) La) Lb).k_ gx23 i ps eF → Stand p l e rm11f_room s m #[(.ref r0), (.int p1)] below meth c TOL LOL 2 6144 → Fr n0 LOL → TOL.heap = hOL → One j6O → One j7O → n0 ≤ hOL.size → Exa Z hOL r0 oC0 → Fld Z hOL r0 oC0 "receivers" "I" (.int n) → Fld Z hOL r0 oC0 "outboxes" oC4 (.ref ob) → Fld Z hOL r0 oC0 "recipients" oC6 (.ref rv) → Fld Z hOL r0 oC0 "delivered" "I" (.int ((own_tot (own_tot (0 : Int64) La) Lb).toInt32)) → Fld Z hOL r0 oC0 "senders" "[I" .null → Fld Z hOL r0 oC0 "messages" "[J" .null → Fld Z hOL r0 oC0 "first" "[I" (.ref b14) → Fld Z hOL r0 oC0 "end" "[I" (.ref b17) → own_Oa Z hOL ob oC2 v0 v1 → own_Box Z hOL n0 v0 Da La → own_Box Z hOL n0 v1 Db Lb → Exa Z hOL rv oC1 → Fld Z hOL rv oC1 "words" "[J" (.ref wd) → Fld Z hOL rv oC1 "held" "[Z" (.ref hd) → Fld Z hOL rv oC1 "blocks" oC5 (.ref il) → Fld Z hOL rv oC1 "sorted" "Z" (.int 1) → Exa Z hOL il oC3 → Fld Z hOL il oC3 "indices" "[I" (.ref ix) → Fld Z hOL il oC3 "size" "I" (.int (own_adds (own_adds (own_v0 fi) La) Lb).k_) → own_Arf Z hOL ix .int (16 : Int32) (fun i => .int (gx23 i)) → own_Arf Z hOL wd .long (nb * (16 : Int32)) (fun i => .long ((own_adds (own_adds (own_v0 fi) La) Lb).w_ i)) → own_Arf Z hOL hd .boolean nb (fun i => .int ((own_adds (own_adds (own_v0 fi) La) Lb).h_ i)) → own_Arf Z hOL b14 .int n (fun i => .int (fF i)) → own_Arf Z hOL b17 .int n (fun i => .int (eF i)) → own_Fin p.tables e below s (Qrm11f Z r0 p1 n La Lb h0 n0) rm11f_room.cells rm11f_room.slots (TOL.setTop (mkF m 308 #[oR r0, oI p1, .val (.long (own_tot (own_tot (0 : Int64) La) Lb)), oS, oI ps, oI i, j6O, j7O, j821, j921, oU] [])) := by
       intro kO
       induction kO using Nat.strongRecOn with
       | _ kO ihO =>
        intro i ps fF eF TOL LOL hOL j6O j7O hkO hO XOL NOL eOL hj6O hj7O ZOL E_r0_OL F_receivers_r0_OL F_outboxes_r0_OL F_recipients_r0_OL F_delivered_r0_OL F_senders_r0_OL F_messages_r0_OL F_first_r0_OL F_end_r0_OL O_ob_OL B_0_OL B_1_OL E_rv_OL F_words_rv_OL F_held_rv_OL F_blocks_rv_OL F_sorted_rv_OL E_il_OL F_indices_il_OL F_size_il_OL A_ix_OL A_wd_OL A_hd_OL A_b14_OL A_b17_OL
        show oF (TOL.setTop (mkF m 308 #[oR r0, oI p1, .val (.long (own_tot (own_tot (0 : Int64) La) Lb)), oS, oI ps, oI i, j6O, j7O, j821, j921, oU] []))
        refine own_go (fun _ k => XS.iload XOL.here hx rfl (hb hby d11_308) rfl (XS.aloadN XOL.here hx rfl (hb hby d11_310) rfl rfl k)) ?_
        obtain ⟨T24, X24, e24, st24⟩ := getF XOL hx hZ hown (host := "") (Or.inl (oW hw 62 rfl)) Via.refl eOL F_recipients_r0_OL (g := (mkF m 311 #[oR r0, oI p1, .val (.long (own_tot (own_tot (0 : Int64) La) Lb)), oS, oI ps, oI i, j6O, j7O, j821, j921, oU] [(.ref r0), (.int i)])) rfl rfl (hb hby d11_311)
        refine own_go (fun tg k => st24 tg k) ?_
        have cq := isOf hZ e24 E_rv_OL
        obtain ⟨cq25, kq25, q25a, q25b, q25c⟩ := cq
        have cq := X24.virtualBack hx (y := oM11) (z := oM11) hown (mvT hZ (oW hw 103 rfl)) (mvT hZ (oW hw 104 rfl)) (notFace_of_selects (args := #[]) (mvT hZ (oW hw 106 rfl))) (mvT hZ (oW hw 106 rfl)) (mvT hZ (oW hw 105 rfl)) (by decide) (backOf (W := 1) (rm12 l Z a0 hw [] rv il (own_adds (own_adds (own_v0 fi) La) Lb).k_ hOL n0 ZOL F_blocks_rv_OL E_il_OL F_size_il_OL) hZ (oW hw 107 rfl) (oW hw 33 rfl) (by decide) (by decide)) q25a q25c (g := (mkF m 314 #[oR r0, oI p1, .val (.long (own_tot (own_tot (0 : Int64) La) Lb)), oS, oI ps, oI i, j6O, j7O, j821, j921, oU] [(.ref rv), (.int i)])) rfl (by rw [hml]; rfl) (Steps.refl _) (argsL := []) (rest := [(.int i)]) (lenOf own_pd194 rfl) rfl (by show 2 * 0 + _ ≤ _; exact Nat.le_of_eq rfl) (hb hby d11_314) (fun _ _ => ⟨rfl, e24, (by decide : 2 + 0 ≤ _), (by decide : 6144 + 0 ≤ _)⟩)
        obtain ⟨_, _, ⟨T25, L25, k25, n25⟩, -, X25, ⟨Lc25, hQ25, l25, y25, z25⟩, st25⟩ := cq
        dsimp only [Pt.U, Pt.locs, Pt.cells, Pt.slots] at X25 l25 y25 z25 st25 hQ25
        replace y25 : 2 = k25 := y25.symm
        replace z25 : 6144 = n25 := z25.symm
        subst y25 z25
        obtain ⟨rfl, N25q, e25⟩ := hQ25
        have N25 : Fr n0 L25 := by rw [l25]; exact Fr.app NOL N25q
        refine own_go (fun tg k => st25.trans k) ?_
        show oF (T25.setTop (mkF m 317 #[oR r0, oI p1, .val (.long (own_tot (own_tot (0 : Int64) La) Lb)), oS, oI ps, oI i, j6O, j7O, j821, j921, oU] [(.int (own_adds (own_adds (own_v0 fi) La) Lb).k_), (.int i)]))
        by_cases hc26 : i < (own_adds (own_adds (own_v0 fi) La) Lb).k_
        ·refine own_go (fun _ k => XS.icmpNo X25.here hx rfl (hb hby d11_317) rfl (tlt hc26).2.1 k) ?_
         show oF (T25.setTop (mkF m 320 #[oR r0, oI p1, .val (.long (own_tot (own_tot (0 : Int64) La) Lb)), oS, oI ps, oI i, j6O, j7O, j821, j921, oU] []))
         refine own_go (fun _ k => XS.aloadN X25.here hx rfl (hb hby d11_320) rfl rfl k) ?_
         obtain ⟨T27, X27, e27, st27⟩ := getF X25 hx hZ hown (host := "") (Or.inl (oW hw 62 rfl)) Via.refl e25 F_recipients_r0_OL (g := (mkF m 321 #[oR r0, oI p1, .val (.long (own_tot (own_tot (0 : Int64) La) Lb)), oS, oI ps, oI i, j6O, j7O, j821, j921, oU] [(.ref r0)])) rfl rfl (hb hby d11_321)
         refine own_go (fun tg k => st27 tg k) ?_
         refine own_go (fun _ k => XS.iload X27.here hx rfl (hb hby d11_324) rfl k) ?_
         have cq := isOf hZ e27 E_rv_OL
         obtain ⟨cq28, kq28, q28a, q28b, q28c⟩ := cq
         have cq := X27.virtualBack hx (y := oM12) (z := oM12) hown (mvT hZ (oW hw 155 rfl)) (mvT hZ (oW hw 156 rfl)) (notFace_of_selects (args := #[]) (mvT hZ (oW hw 158 rfl))) (mvT hZ (oW hw 158 rfl)) (mvT hZ (oW hw 157 rfl)) (by decide) (backOf (W := 0) (rm20 l Z a0 hw [] rv i il ix gx23 hOL n0 ZOL F_sorted_rv_OL F_blocks_rv_OL E_il_OL F_indices_il_OL A_ix_OL (own_SOi hO hc26)) hZ (oW hw 159 rfl) (oW hw 33 rfl) (by decide) (by decide)) q28a q28c (g := (mkF m 326 #[oR r0, oI p1, .val (.long (own_tot (own_tot (0 : Int64) La) Lb)), oS, oI ps, oI i, j6O, j7O, j821, j921, oU] [(.int i), (.ref rv)])) rfl (by rw [hml]; rfl) (Steps.refl _) (argsL := [(.int i)]) (rest := []) (lenOf own_pd90 rfl) rfl (by show 2 * 0 + _ ≤ _; exact Nat.le_of_eq rfl) (hb hby d11_326) (fun _ _ => ⟨rfl, e27, (by decide : 2 + 0 ≤ _), (by decide : 6144 + 0 ≤ _)⟩)
         obtain ⟨_, _, ⟨T28, L28, k28, n28⟩, -, X28, ⟨Lc28, hQ28, l28, y28, z28⟩, st28⟩ := cq
         dsimp only [Pt.U, Pt.locs, Pt.cells, Pt.slots] at X28 l28 y28 z28 st28 hQ28
         replace y28 : 2 = k28 := y28.symm
         replace z28 : 6144 = n28 := z28.symm
         subst y28 z28
         obtain ⟨rfl, N28q, e28⟩ := hQ28
         have N28 : Fr n0 L28 := by rw [l28]; exact Fr.app N25 N28q
         refine own_go (fun tg k => st28.trans k) ?_
         show oF (T28.setTop (mkF m 329 #[oR r0, oI p1, .val (.long (own_tot (own_tot (0 : Int64) La) Lb)), oS, oI ps, oI i, j6O, j7O, j821, j921, oU] [(.int (gx23 i.toNatClampNeg))]))
         refine own_go (fun _ k => XS.istoreS X28.here hx rfl (hb hby d11_329) rfl rfl hj6O (XS.aloadN X28.here hx rfl (hb hby d11_331) rfl rfl k)) ?_
         obtain ⟨T29, X29, e29, st29⟩ := getF X28 hx hZ hown (host := "") (Or.inl (oW hw 62 rfl)) Via.refl e28 F_recipients_r0_OL (g := (mkF m 332 #[oR r0, oI p1, .val (.long (own_tot (own_tot (0 : Int64) La) Lb)), oS, oI ps, oI i, .val (.int (gx23 i.toNatClampNeg)), j7O, j821, j921, oU] [(.ref r0)])) rfl rfl (hb hby d11_332)
         refine own_go (fun tg k => st29 tg k) ?_
         refine own_go (fun _ k => XS.iload X29.here hx rfl (hb hby d11_335) rfl (XS.iload X29.here hx rfl (hb hby d11_337) rfl (XS.sipush X29.here hx rfl (hb hby d11_339) (XS.imul X29.here hx rfl (hb hby d11_342) rfl k)))) ?_
         have cq := isOf hZ e29 E_rv_OL
         obtain ⟨cq30, kq30, q30a, q30b, q30c⟩ := cq
         have cq := X29.virtualBack hx (y := oM25) (z := oM25) hown (mvT hZ (oW hw 165 rfl)) (mvT hZ (oW hw 166 rfl)) (notFace_of_selects (args := #[]) (mvT hZ (oW hw 168 rfl))) (mvT hZ (oW hw 168 rfl)) (mvT hZ (oW hw 167 rfl)) (by decide) (backOf (W := 0) (rm22 l Z a0 hw [] rv (gx23 i.toNatClampNeg) ((gx23 i.toNatClampNeg) * (1024 : Int32)) wd nb (own_adds (own_adds (own_v0 fi) La) Lb).w_ (La ++ Lb) hOL n0 ZOL F_words_rv_OL A_wd_OL (own_SOp hn hm (own_BLx fi hn hm).2 hO hc26)) hZ (oW hw 169 rfl) (oW hw 33 rfl) (by decide) (by decide)) q30a q30c (g := (mkF m 343 #[oR r0, oI p1, .val (.long (own_tot (own_tot (0 : Int64) La) Lb)), oS, oI ps, oI i, .val (.int (gx23 i.toNatClampNeg)), j7O, j821, j921, oU] [(.int ((gx23 i.toNatClampNeg) * (1024 : Int32))), (.int (gx23 i.toNatClampNeg)), (.ref rv)])) rfl (by rw [hml]; rfl) (Steps.refl _) (argsL := [(.int (gx23 i.toNatClampNeg)), (.int ((gx23 i.toNatClampNeg) * (1024 : Int32)))]) (rest := []) (lenOf own_pd696 rfl) rfl (by show 2 * 0 + _ ≤ _; exact Nat.le_of_eq rfl) (hb hby d11_343) (fun _ _ => ⟨rfl, e29, (by decide : 2 + 0 ≤ _), (by decide : 6144 + 0 ≤ _)⟩)
         obtain ⟨_, _, ⟨T30, L30, k30, n30⟩, -, X30, ⟨Lc30, hQ30, l30, y30, z30⟩, st30⟩ := cq
         dsimp only [Pt.U, Pt.locs, Pt.cells, Pt.slots] at X30 l30 y30 z30 st30 hQ30
         replace y30 : 2 = k30 := y30.symm
         replace z30 : 6144 = n30 := z30.symm
         subst y30 z30
         obtain ⟨rx30, rfl, N30q, e30, Pq30_0⟩ := hQ30
         have N30 : Fr n0 L30 := by rw [l30]; exact Fr.app N28 N30q
         refine own_go (fun tg k => st30.trans k) ?_
         show oF (T30.setTop (mkF m 346 #[oR r0, oI p1, .val (.long (own_tot (own_tot (0 : Int64) La) Lb)), oS, oI ps, oI i, .val (.int (gx23 i.toNatClampNeg)), j7O, j821, j921, oU] [(.int rx30)]))
         refine own_go (fun _ k => XS.istoreS X30.here hx rfl (hb hby d11_346) rfl rfl hj7O k) ?_
         show oF (T30.setTop (mkF m 348 #[oR r0, oI p1, .val (.long (own_tot (own_tot (0 : Int64) La) Lb)), oS, oI ps, oI i, .val (.int (gx23 i.toNatClampNeg)), oI rx30, j821, j921, oU] []))
         have loopS : ∀ (kS : Nat) (v : Int32) (pt : Int32) (fG : Nat → Int32) (eG : Nat → Int32) (TSL : State) (LSL : List Loc) (hSL : Heap), kS = own_ms v → own_SI (La ++ Lb) n (gx23 i.toNatClampNeg) v pt eG → Stand p l e rm11f_room s m #[(.ref r0), (.int p1)] below meth c TSL LSL 2 6144 → Fr n0 LSL → TSL.heap = hSL → n0 ≤ hSL.size → Exa Z hSL r0 oC0 → Fld Z hSL r0 oC0 "receivers" "I" (.int n) → Fld Z hSL r0 oC0 "outboxes" oC4 (.ref ob) → Fld Z hSL r0 oC0 "recipients" oC6 (.ref rv) → Fld Z hSL r0 oC0 "delivered" "I" (.int ((own_tot (own_tot (0 : Int64) La) Lb).toInt32)) → Fld Z hSL r0 oC0 "senders" "[I" .null → Fld Z hSL r0 oC0 "messages" "[J" .null → Fld Z hSL r0 oC0 "first" "[I" (.ref b14) → Fld Z hSL r0 oC0 "end" "[I" (.ref b17) → own_Oa Z hSL ob oC2 v0 v1 → own_Box Z hSL n0 v0 Da La → own_Box Z hSL n0 v1 Db Lb → Exa Z hSL rv oC1 → Fld Z hSL rv oC1 "words" "[J" (.ref wd) → Fld Z hSL rv oC1 "held" "[Z" (.ref hd) → Fld Z hSL rv oC1 "blocks" oC5 (.ref il) → Fld Z hSL rv oC1 "sorted" "Z" (.int 1) → Exa Z hSL il oC3 → Fld Z hSL il oC3 "indices" "[I" (.ref ix) → Fld Z hSL il oC3 "size" "I" (.int (own_adds (own_adds (own_v0 fi) La) Lb).k_) → own_Arf Z hSL ix .int (16 : Int32) (fun i => .int (gx23 i)) → own_Arf Z hSL wd .long (nb * (16 : Int32)) (fun i => .long ((own_adds (own_adds (own_v0 fi) La) Lb).w_ i)) → own_Arf Z hSL hd .boolean nb (fun i => .int ((own_adds (own_adds (own_v0 fi) La) Lb).h_ i)) → own_Arf Z hSL b14 .int n (fun i => .int (fG i)) → own_Arf Z hSL b17 .int n (fun i => .int (eG i)) → own_Fin p.tables e below s (Qrm11f Z r0 p1 n La Lb h0 n0) rm11f_room.cells rm11f_room.slots (TSL.setTop (mkF m 348 #[oR r0, oI p1, .val (.long (own_tot (own_tot (0 : Int64) La) Lb)), oS, oI pt, oI i, .val (.int (gx23 i.toNatClampNeg)), oI v, j821, j921, oU] [])) := by
          intro kS
          induction kS using Nat.strongRecOn with
          | _ kS ihS =>
           intro v pt fG eG TSL LSL hSL hkS hS XSL NSL eSL ZSL E_r0_SL F_receivers_r0_SL F_outboxes_r0_SL F_recipients_r0_SL F_delivered_r0_SL F_senders_r0_SL F_messages_r0_SL F_first_r0_SL F_end_r0_SL O_ob_SL B_0_SL B_1_SL E_rv_SL F_words_rv_SL F_held_rv_SL F_blocks_rv_SL F_sorted_rv_SL E_il_SL F_indices_il_SL F_size_il_SL A_ix_SL A_wd_SL A_hd_SL A_b14_SL A_b17_SL
           show oF (TSL.setTop (mkF m 348 #[oR r0, oI p1, .val (.long (own_tot (own_tot (0 : Int64) La) Lb)), oS, oI pt, oI i, .val (.int (gx23 i.toNatClampNeg)), oI v, j821, j921, oU] []))
           refine own_go (fun _ k => XS.iload XSL.here hx rfl (hb hby d11_348) rfl k) ?_
           by_cases hc31 : v < (0 : Int32)
           ·refine own_go (fun _ k => XS.ifYes XSL.here hx rfl (pc0 := 350) (pc' := 406) rfl (hb hby d11_350) rfl ((if0 _ _).trans (tlt hc31).1) (by decide) (by decide) k) ?_
            show oF (TSL.setTop (mkF m 406 #[oR r0, oI p1, .val (.long (own_tot (own_tot (0 : Int64) La) Lb)), oS, oI pt, oI i, .val (.int (gx23 i.toNatClampNeg)), oI v, j821, j921, oU] []))
            refine own_go (fun _ k => XS.iinc XSL.here hx rfl (hb hby d11_406) rfl (l' := #[oR r0, oI p1, .val (.long (own_tot (own_tot (0 : Int64) La) Lb)), oS, oI pt, .val (.int (i + (1 : Int32))), .val (.int (gx23 i.toNatClampNeg)), oI v, j821, j921, oU]) rfl (XS.goto XSL.here hx rfl (pc0 := 409) (pc' := 308) rfl (hb hby d11_409) (by decide) (by decide) k)) ?_
            show oF (TSL.setTop (mkF m 308 #[oR r0, oI p1, .val (.long (own_tot (own_tot (0 : Int64) La) Lb)), oS, oI pt, .val (.int (i + (1 : Int32))), .val (.int (gx23 i.toNatClampNeg)), oI v, j821, j921, oU] []))
            exact ihO _ (Nat.lt_of_lt_of_eq (own_SOs hO hc26 hS hc31).2 hkO.symm) ((i + (1 : Int32))) (pt) (fG) (eG) TSL _ hSL (.val (.int (gx23 i.toNatClampNeg))) (oI v) rfl (own_SOs hO hc26 hS hc31).1 (own_mono XSL (by decide) (by decide)) NSL eSL (One.val rfl) (One.val rfl) ZSL E_r0_SL F_receivers_r0_SL F_outboxes_r0_SL F_recipients_r0_SL F_delivered_r0_SL F_senders_r0_SL F_messages_r0_SL F_first_r0_SL F_end_r0_SL O_ob_SL B_0_SL B_1_SL E_rv_SL F_words_rv_SL F_held_rv_SL F_blocks_rv_SL F_sorted_rv_SL E_il_SL F_indices_il_SL F_size_il_SL A_ix_SL A_wd_SL A_hd_SL A_b14_SL A_b17_SL
           ·refine own_go (fun _ k => XS.ifNo XSL.here hx rfl (hb hby d11_350) rfl ((if0 _ _).trans (flt hc31).1) k) ?_
            show oF (TSL.setTop (mkF m 353 #[oR r0, oI p1, .val (.long (own_tot (own_tot (0 : Int64) La) Lb)), oS, oI pt, oI i, .val (.int (gx23 i.toNatClampNeg)), oI v, j821, j921, oU] []))
            refine own_go (fun _ k => XS.aloadN XSL.here hx rfl (hb hby d11_353) rfl rfl k) ?_
            obtain ⟨T32, X32, e32, st32⟩ := getF XSL hx hZ hown (host := "") (Or.inl (oW hw 133 rfl)) Via.refl eSL F_first_r0_SL (g := (mkF m 354 #[oR r0, oI p1, .val (.long (own_tot (own_tot (0 : Int64) La) Lb)), oS, oI pt, oI i, .val (.int (gx23 i.toNatClampNeg)), oI v, j821, j921, oU] [(.ref r0)])) rfl rfl (hb hby d11_354)
            refine own_go (fun tg k => st32 tg k) ?_
            refine own_go (fun _ k => XS.iload X32.here hx rfl (hb hby d11_357) rfl (XS.iload X32.here hx rfl (hb hby d11_359) rfl k)) ?_
            obtain ⟨T33, h33, X33, e33, W33, A_b14_33, st33⟩ := own_stI X32 hx hZ e32 A_b14_SL (j := v) (own_SIb hn hS hc31) (g := (mkF m 361 #[oR r0, oI p1, .val (.long (own_tot (own_tot (0 : Int64) La) Lb)), oS, oI pt, oI i, .val (.int (gx23 i.toNatClampNeg)), oI v, j821, j921, oU] [(.int pt), (.int v), (.ref b14)])) rfl rfl (hb hby d11_361)
            have E_r0_33 := E_r0_SL.wr W33
            have F_receivers_r0_33 := F_receivers_r0_SL.other W33 (Or.inl ne_r0_b14)
            have F_outboxes_r0_33 := F_outboxes_r0_SL.other W33 (Or.inl ne_r0_b14)
            have F_recipients_r0_33 := F_recipients_r0_SL.other W33 (Or.inl ne_r0_b14)
            have F_delivered_r0_33 := F_delivered_r0_SL.other W33 (Or.inl ne_r0_b14)
            have F_senders_r0_33 := F_senders_r0_SL.other W33 (Or.inl ne_r0_b14)
            have F_messages_r0_33 := F_messages_r0_SL.other W33 (Or.inl ne_r0_b14)
            have F_first_r0_33 := F_first_r0_SL.other W33 (Or.inl ne_r0_b14)
            have F_end_r0_33 := F_end_r0_SL.other W33 (Or.inl ne_r0_b14)
            have O_ob_33 := O_ob_SL.other W33 ne_ob_b14
            have B_0_33 := B_0_SL.other W33 nb_b14_0
            have B_1_33 := B_1_SL.other W33 nb_b14_1
            have E_rv_33 := E_rv_SL.wr W33
            have F_words_rv_33 := F_words_rv_SL.other W33 (Or.inl ne_rv_b14)
            have F_held_rv_33 := F_held_rv_SL.other W33 (Or.inl ne_rv_b14)
            have F_blocks_rv_33 := F_blocks_rv_SL.other W33 (Or.inl ne_rv_b14)
            have F_sorted_rv_33 := F_sorted_rv_SL.other W33 (Or.inl ne_rv_b14)
            have E_il_33 := E_il_SL.wr W33
            have F_indices_il_33 := F_indices_il_SL.other W33 (Or.inl ne_il_b14)
            have F_size_il_33 := F_size_il_SL.other W33 (Or.inl ne_il_b14)
            have A_ix_33 := A_ix_SL.other W33 ne_ix_b14
            have A_wd_33 := A_wd_SL.other W33 ne_wd_b14
            have A_hd_33 := A_hd_SL.other W33 ne_hd_b14
            have A_b17_33 := A_b17_SL.other W33 (Ne.symm ne_b14_b17)
            have N33 := Fr.snoc X33 NSL ge_b14
            have Z33 : n0 ≤ h33.size := Nat.le_trans ZSL (Keep.of_wr W33).1
            refine own_go (fun tg k => st33 tg k) ?_
            refine own_go (fun _ k => XS.iload X33.here hx rfl (hb hby d11_362) rfl (XS.aloadN X33.here hx rfl (hb hby d11_364) rfl rfl k)) ?_
            obtain ⟨T34, X34, e34, st34⟩ := getF X33 hx hZ hown (host := "") (Or.inl (oW hw 69 rfl)) Via.refl e33 F_end_r0_33 (g := (mkF m 365 #[oR r0, oI p1, .val (.long (own_tot (own_tot (0 : Int64) La) Lb)), oS, oI pt, oI i, .val (.int (gx23 i.toNatClampNeg)), oI v, j821, j921, oU] [(.ref r0), (.int pt)])) rfl rfl (hb hby d11_365)
            refine own_go (fun tg k => st34 tg k) ?_
            refine own_go (fun _ k => XS.iload X34.here hx rfl (hb hby d11_368) rfl k) ?_
            refine own_go (fun tg k => own_iaload X34 hx hZ e34 A_b17_33 (j := v) (own_SIb hn hS hc31) (x := (eG v.toNatClampNeg)) rfl (g := (mkF m 370 #[oR r0, oI p1, .val (.long (own_tot (own_tot (0 : Int64) La) Lb)), oS, oI pt, oI i, .val (.int (gx23 i.toNatClampNeg)), oI v, j821, j921, oU] [(.int v), (.ref b17), (.int pt)])) rfl rfl (hb hby d11_370) tg k) ?_
            refine own_go (fun _ k => XS.iadd X34.here hx rfl (hb hby d11_371) rfl (XS.istore X34.here hx rfl (hb hby d11_372) rfl (l' := #[oR r0, oI p1, .val (.long (own_tot (own_tot (0 : Int64) La) Lb)), oS, .val (.int (pt + (eG v.toNatClampNeg))), oI i, .val (.int (gx23 i.toNatClampNeg)), oI v, j821, j921, oU]) rfl (XS.aloadN X34.here hx rfl (hb hby d11_374) rfl rfl k))) ?_
            obtain ⟨T35, X35, e35, st35⟩ := getF X34 hx hZ hown (host := "") (Or.inl (oW hw 69 rfl)) Via.refl e34 F_end_r0_33 (g := (mkF m 375 #[oR r0, oI p1, .val (.long (own_tot (own_tot (0 : Int64) La) Lb)), oS, .val (.int (pt + (eG v.toNatClampNeg))), oI i, .val (.int (gx23 i.toNatClampNeg)), oI v, j821, j921, oU] [(.ref r0)])) rfl rfl (hb hby d11_375)
            refine own_go (fun tg k => st35 tg k) ?_
            refine own_go (fun _ k => XS.iload X35.here hx rfl (hb hby d11_378) rfl (XS.aloadN X35.here hx rfl (hb hby d11_380) rfl rfl k)) ?_
            obtain ⟨T36, X36, e36, st36⟩ := getF X35 hx hZ hown (host := "") (Or.inl (oW hw 133 rfl)) Via.refl e35 F_first_r0_33 (g := (mkF m 381 #[oR r0, oI p1, .val (.long (own_tot (own_tot (0 : Int64) La) Lb)), oS, .val (.int (pt + (eG v.toNatClampNeg))), oI i, .val (.int (gx23 i.toNatClampNeg)), oI v, j821, j921, oU] [(.ref r0), (.int v), (.ref b17)])) rfl rfl (hb hby d11_381)
            refine own_go (fun tg k => st36 tg k) ?_
            refine own_go (fun _ k => XS.iload X36.here hx rfl (hb hby d11_384) rfl k) ?_
            refine own_go (fun tg k => own_iaload X36 hx hZ e36 A_b14_33 (j := v) (own_SIb hn hS hc31) (x := ((own_set fG v pt) v.toNatClampNeg)) rfl (g := (mkF m 386 #[oR r0, oI p1, .val (.long (own_tot (own_tot (0 : Int64) La) Lb)), oS, .val (.int (pt + (eG v.toNatClampNeg))), oI i, .val (.int (gx23 i.toNatClampNeg)), oI v, j821, j921, oU] [(.int v), (.ref b14), (.int v), (.ref b17)])) rfl rfl (hb hby d11_386) tg k) ?_
            obtain ⟨T37, h37, X37, e37, W37, A_b17_37, st37⟩ := own_stI X36 hx hZ e36 A_b17_33 (j := v) (own_SIb hn hS hc31) (g := (mkF m 387 #[oR r0, oI p1, .val (.long (own_tot (own_tot (0 : Int64) La) Lb)), oS, .val (.int (pt + (eG v.toNatClampNeg))), oI i, .val (.int (gx23 i.toNatClampNeg)), oI v, j821, j921, oU] [(.int ((own_set fG v pt) v.toNatClampNeg)), (.int v), (.ref b17)])) rfl rfl (hb hby d11_387)
            have E_r0_37 := E_r0_33.wr W37
            have F_receivers_r0_37 := F_receivers_r0_33.other W37 (Or.inl ne_r0_b17)
            have F_outboxes_r0_37 := F_outboxes_r0_33.other W37 (Or.inl ne_r0_b17)
            have F_recipients_r0_37 := F_recipients_r0_33.other W37 (Or.inl ne_r0_b17)
            have F_delivered_r0_37 := F_delivered_r0_33.other W37 (Or.inl ne_r0_b17)
            have F_senders_r0_37 := F_senders_r0_33.other W37 (Or.inl ne_r0_b17)
            have F_messages_r0_37 := F_messages_r0_33.other W37 (Or.inl ne_r0_b17)
            have F_first_r0_37 := F_first_r0_33.other W37 (Or.inl ne_r0_b17)
            have F_end_r0_37 := F_end_r0_33.other W37 (Or.inl ne_r0_b17)
            have O_ob_37 := O_ob_33.other W37 ne_ob_b17
            have B_0_37 := B_0_33.other W37 nb_b17_0
            have B_1_37 := B_1_33.other W37 nb_b17_1
            have E_rv_37 := E_rv_33.wr W37
            have F_words_rv_37 := F_words_rv_33.other W37 (Or.inl ne_rv_b17)
            have F_held_rv_37 := F_held_rv_33.other W37 (Or.inl ne_rv_b17)
            have F_blocks_rv_37 := F_blocks_rv_33.other W37 (Or.inl ne_rv_b17)
            have F_sorted_rv_37 := F_sorted_rv_33.other W37 (Or.inl ne_rv_b17)
            have E_il_37 := E_il_33.wr W37
            have F_indices_il_37 := F_indices_il_33.other W37 (Or.inl ne_il_b17)
            have F_size_il_37 := F_size_il_33.other W37 (Or.inl ne_il_b17)
            have A_ix_37 := A_ix_33.other W37 ne_ix_b17
            have A_wd_37 := A_wd_33.other W37 ne_wd_b17
            have A_hd_37 := A_hd_33.other W37 ne_hd_b17
            have A_b14_37 := A_b14_33.other W37 ne_b14_b17
            have N37 := Fr.snoc X37 N33 ge_b17
            have Z37 : n0 ≤ h37.size := Nat.le_trans Z33 (Keep.of_wr W37).1
            refine own_go (fun tg k => st37 tg k) ?_
            refine own_go (fun _ k => XS.aloadN X37.here hx rfl (hb hby d11_388) rfl rfl k) ?_
            obtain ⟨T38, X38, e38, st38⟩ := getF X37 hx hZ hown (host := "") (Or.inl (oW hw 62 rfl)) Via.refl e37 F_recipients_r0_37 (g := (mkF m 389 #[oR r0, oI p1, .val (.long (own_tot (own_tot (0 : Int64) La) Lb)), oS, .val (.int (pt + (eG v.toNatClampNeg))), oI i, .val (.int (gx23 i.toNatClampNeg)), oI v, j821, j921, oU] [(.ref r0)])) rfl rfl (hb hby d11_389)
            refine own_go (fun tg k => st38 tg k) ?_
            refine own_go (fun _ k => XS.iload X38.here hx rfl (hb hby d11_392) rfl (XS.iload X38.here hx rfl (hb hby d11_394) rfl (XS.iconst X38.here hx rfl (hb hby d11_396) (XS.iadd X38.here hx rfl (hb hby d11_397) rfl k)))) ?_
            have cq := isOf hZ e38 E_rv_37
            obtain ⟨cq39, kq39, q39a, q39b, q39c⟩ := cq
            have cq := X38.virtualBack hx (y := oM25) (z := oM25) hown (mvT hZ (oW hw 165 rfl)) (mvT hZ (oW hw 166 rfl)) (notFace_of_selects (args := #[]) (mvT hZ (oW hw 168 rfl))) (mvT hZ (oW hw 168 rfl)) (mvT hZ (oW hw 167 rfl)) (by decide) (backOf (W := 0) (rm22 l Z a0 hw [] rv (gx23 i.toNatClampNeg) (v + (1 : Int32)) wd nb (own_adds (own_adds (own_v0 fi) La) Lb).w_ (La ++ Lb) h37 n0 Z37 F_words_rv_37 A_wd_37 (own_SIp hS hc31 (own_SOp hn hm (own_BLx fi hn hm).2 hO hc26))) hZ (oW hw 169 rfl) (oW hw 33 rfl) (by decide) (by decide)) q39a q39c (g := (mkF m 398 #[oR r0, oI p1, .val (.long (own_tot (own_tot (0 : Int64) La) Lb)), oS, .val (.int (pt + (eG v.toNatClampNeg))), oI i, .val (.int (gx23 i.toNatClampNeg)), oI v, j821, j921, oU] [(.int (v + (1 : Int32))), (.int (gx23 i.toNatClampNeg)), (.ref rv)])) rfl (by rw [hml]; rfl) (Steps.refl _) (argsL := [(.int (gx23 i.toNatClampNeg)), (.int (v + (1 : Int32)))]) (rest := []) (lenOf own_pd696 rfl) rfl (by show 2 * 0 + _ ≤ _; exact Nat.le_of_eq rfl) (hb hby d11_398) (fun _ _ => ⟨rfl, e38, (by decide : 2 + 0 ≤ _), (by decide : 6144 + 0 ≤ _)⟩)
            obtain ⟨_, _, ⟨T39, L39, k39, n39⟩, -, X39, ⟨Lc39, hQ39, l39, y39, z39⟩, st39⟩ := cq
            dsimp only [Pt.U, Pt.locs, Pt.cells, Pt.slots] at X39 l39 y39 z39 st39 hQ39
            replace y39 : 2 = k39 := y39.symm
            replace z39 : 6144 = n39 := z39.symm
            subst y39 z39
            obtain ⟨rx39, rfl, N39q, e39, Pq39_0⟩ := hQ39
            have N39 : Fr n0 L39 := by rw [l39]; exact Fr.app N37 N39q
            refine own_go (fun tg k => st39.trans k) ?_
            show oF (T39.setTop (mkF m 401 #[oR r0, oI p1, .val (.long (own_tot (own_tot (0 : Int64) La) Lb)), oS, .val (.int (pt + (eG v.toNatClampNeg))), oI i, .val (.int (gx23 i.toNatClampNeg)), oI v, j821, j921, oU] [(.int rx39)]))
            refine own_go (fun _ k => XS.istore X39.here hx rfl (hb hby d11_401) rfl (l' := #[oR r0, oI p1, .val (.long (own_tot (own_tot (0 : Int64) La) Lb)), oS, .val (.int (pt + (eG v.toNatClampNeg))), oI i, .val (.int (gx23 i.toNatClampNeg)), oI rx39, j821, j921, oU]) rfl (XS.goto X39.here hx rfl (pc0 := 403) (pc' := 348) rfl (hb hby d11_403) (by decide) (by decide) k)) ?_
            show oF (T39.setTop (mkF m 348 #[oR r0, oI p1, .val (.long (own_tot (own_tot (0 : Int64) La) Lb)), oS, .val (.int (pt + (eG v.toNatClampNeg))), oI i, .val (.int (gx23 i.toNatClampNeg)), oI rx39, j821, j921, oU] []))
            exact ihS _ (Nat.lt_of_lt_of_eq (own_SIs (fF := fG) hn hm hS hc31 Pq39_0).2 hkS.symm) (rx39) ((pt + (eG v.toNatClampNeg))) ((own_set fG v pt)) ((own_set eG v ((own_set fG v pt) v.toNatClampNeg))) T39 _ h37 rfl (own_SIs (fF := fG) hn hm hS hc31 Pq39_0).1 (own_mono X39 (by decide) (by decide)) N39 e39 Z37 E_r0_37 F_receivers_r0_37 F_outboxes_r0_37 F_recipients_r0_37 F_delivered_r0_37 F_senders_r0_37 F_messages_r0_37 F_first_r0_37 F_end_r0_37 O_ob_37 B_0_37 B_1_37 E_rv_37 F_words_rv_37 F_held_rv_37 F_blocks_rv_37 F_sorted_rv_37 E_il_37 F_indices_il_37 F_size_il_37 A_ix_37 A_wd_37 A_hd_37 A_b14_37 A_b17_37
         exact loopS _ (rx30) (ps) (fF) (eF) T30 _ hOL rfl (own_SOn hn hm hO hc26 Pq30_0) (own_mono X30 (by decide) (by decide)) N30 e30 ZOL E_r0_OL F_receivers_r0_OL F_outboxes_r0_OL F_recipients_r0_OL F_delivered_r0_OL F_senders_r0_OL F_messages_r0_OL F_first_r0_OL F_end_r0_OL O_ob_OL B_0_OL B_1_OL E_rv_OL F_words_rv_OL F_held_rv_OL F_blocks_rv_OL F_sorted_rv_OL E_il_OL F_indices_il_OL F_size_il_OL A_ix_OL A_wd_OL A_hd_OL A_b14_OL A_b17_OL
        ·refine own_go (fun _ k => XS.icmpYes X25.here hx rfl (pc0 := 317) (pc' := 412) rfl (hb hby d11_317) rfl (flt hc26).2.1 (by decide) (by decide) k) ?_
         show oF (T25.setTop (mkF m 412 #[oR r0, oI p1, .val (.long (own_tot (own_tot (0 : Int64) La) Lb)), oS, oI ps, oI i, j6O, j7O, j821, j921, oU] []))
         have hSc := own_SOx hO hc26
         refine own_go (fun _ k => XS.aloadN X25.here hx rfl (hb hby d11_412) rfl rfl (XS.aloadN X25.here hx rfl (hb hby d11_413) rfl rfl k)) ?_
         obtain ⟨T40, X40, e40, st40⟩ := getF X25 hx hZ hown (host := "") (Or.inl (oW hw 127 rfl)) Via.refl e25 F_delivered_r0_OL (g := (mkF m 414 #[oR r0, oI p1, .val (.long (own_tot (own_tot (0 : Int64) La) Lb)), oS, oI ps, oI i, j6O, j7O, j821, j921, oU] [(.ref r0), (.ref r0)])) rfl rfl (hb hby d11_414)
         refine own_go (fun tg k => st40 tg k) ?_
         obtain ⟨T41, h41, k41, X41, e41, E41, A41, st41⟩ := newP X40 hx hZ (oW hw 49 rfl) e40 (g := (mkF m 417 #[oR r0, oI p1, .val (.long (own_tot (own_tot (0 : Int64) La) Lb)), oS, oI ps, oI i, j6O, j7O, j821, j921, oU] [(.int ((own_tot (own_tot (0 : Int64) La) Lb).toInt32)), (.ref r0)])) rfl (hb hby d11_417) rfl (own_dl hl).1 (cap := 4) (own_dl hl).2 (by decide) (by decide) (by decide)
         obtain ⟨b41, g41⟩ : ∃ z, z = hOL.size := ⟨_, rfl⟩
         rw [← g41] at A41 st41
         have ne_r0_b41 : r0 ≠ b41 := Nat.ne_of_lt (Nat.lt_of_lt_of_le E_r0_OL.lt (Nat.le_of_eq g41.symm))
         have ne_ob_b41 : ob ≠ b41 := Nat.ne_of_lt (Nat.lt_of_lt_of_le O_ob_OL.lt (Nat.le_of_eq g41.symm))
         have ne_rv_b41 : rv ≠ b41 := Nat.ne_of_lt (Nat.lt_of_lt_of_le E_rv_OL.lt (Nat.le_of_eq g41.symm))
         have ne_il_b41 : il ≠ b41 := Nat.ne_of_lt (Nat.lt_of_lt_of_le E_il_OL.lt (Nat.le_of_eq g41.symm))
         have ne_ix_b41 : ix ≠ b41 := Nat.ne_of_lt (Nat.lt_of_lt_of_le A_ix_OL.lt (Nat.le_of_eq g41.symm))
         have ne_wd_b41 : wd ≠ b41 := Nat.ne_of_lt (Nat.lt_of_lt_of_le A_wd_OL.lt (Nat.le_of_eq g41.symm))
         have ne_hd_b41 : hd ≠ b41 := Nat.ne_of_lt (Nat.lt_of_lt_of_le A_hd_OL.lt (Nat.le_of_eq g41.symm))
         have ne_b14_b41 : b14 ≠ b41 := Nat.ne_of_lt (Nat.lt_of_lt_of_le A_b14_OL.lt (Nat.le_of_eq g41.symm))
         have ne_b17_b41 : b17 ≠ b41 := Nat.ne_of_lt (Nat.lt_of_lt_of_le A_b17_OL.lt (Nat.le_of_eq g41.symm))
         have nb_b41_0 : b41 ∉ Da := B_0_OL.nin (Nat.le_of_eq g41.symm)
         have nb_b41_1 : b41 ∉ Db := B_1_OL.nin (Nat.le_of_eq g41.symm)
         have ge_b41 : n0 ≤ b41 := Nat.le_trans ZOL (Nat.le_of_eq g41.symm)
         have E_r0_41 := E_r0_OL.ext E41
         have F_receivers_r0_41 := F_receivers_r0_OL.ext E41
         have F_outboxes_r0_41 := F_outboxes_r0_OL.ext E41
         have F_recipients_r0_41 := F_recipients_r0_OL.ext E41
         have F_delivered_r0_41 := F_delivered_r0_OL.ext E41
         have F_senders_r0_41 := F_senders_r0_OL.ext E41
         have F_messages_r0_41 := F_messages_r0_OL.ext E41
         have F_first_r0_41 := F_first_r0_OL.ext E41
         have F_end_r0_41 := F_end_r0_OL.ext E41
         have O_ob_41 := O_ob_OL.ext E41
         have B_0_41 := B_0_OL.ext E41
         have B_1_41 := B_1_OL.ext E41
         have E_rv_41 := E_rv_OL.ext E41
         have F_words_rv_41 := F_words_rv_OL.ext E41
         have F_held_rv_41 := F_held_rv_OL.ext E41
         have F_blocks_rv_41 := F_blocks_rv_OL.ext E41
         have F_sorted_rv_41 := F_sorted_rv_OL.ext E41
         have E_il_41 := E_il_OL.ext E41
         have F_indices_il_41 := F_indices_il_OL.ext E41
         have F_size_il_41 := F_size_il_OL.ext E41
         have A_ix_41 := A_ix_OL.ext E41
         have A_wd_41 := A_wd_OL.ext E41
         have A_hd_41 := A_hd_OL.ext E41
         have A_b14_41 := A_b14_OL.ext E41
         have A_b17_41 := A_b17_OL.ext E41
         have Z41 : n0 ≤ h41.size := Nat.le_trans ZOL E41.1
         have A_b41_41 : own_Arf Z h41 b41 .int ((own_tot (own_tot (0 : Int64) La) Lb).toInt32) (fun i => .int ((fun _ => (0 : Int32)) i)) := own_Arf.new A41 (own_dl hl).1
         refine own_go (fun tg k => st41 tg k) ?_
         obtain ⟨T42, h42, X42, e42, W42, st42⟩ := putF X41 hx hZ hown (host := "") (Or.inl (oW hw 129 rfl)) Via.refl e41 F_senders_r0_41 E_r0_41 (Or.inl (oW hw 130 rfl)) (oW hw 7 rfl) (ty := (.array .int)) (by decide) rfl rfl (g := (mkF m 419 #[oR r0, oI p1, .val (.long (own_tot (own_tot (0 : Int64) La) Lb)), oS, oI ps, oI i, j6O, j7O, j821, j921, oU] [(.ref b41), (.ref r0)])) rfl rfl (hb hby d11_419)
         have E_r0_42 := E_r0_41.wr W42
         have F_receivers_r0_42 := F_receivers_r0_41.other W42 (Or.inr (own_sn668 hw))
         have F_outboxes_r0_42 := F_outboxes_r0_41.other W42 (Or.inr (own_sn669 hw))
         have F_recipients_r0_42 := F_recipients_r0_41.other W42 (Or.inr (own_sn670 hw))
         have F_delivered_r0_42 := F_delivered_r0_41.other W42 (Or.inr (own_sn671 hw))
         have F_messages_r0_42 := F_messages_r0_41.other W42 (Or.inr (own_sn672 hw))
         have F_first_r0_42 := F_first_r0_41.other W42 (Or.inr (own_sn673 hw))
         have F_end_r0_42 := F_end_r0_41.other W42 (Or.inr (own_sn674 hw))
         have O_ob_42 := O_ob_41.other W42 (Ne.symm (own_ne_oa E_r0_41 (oW hw 7 rfl) O_ob_41))
         have B_0_42 := B_0_41.other W42 nb_r0_0
         have B_1_42 := B_1_41.other W42 nb_r0_1
         have E_rv_42 := E_rv_41.wr W42
         have u42_rv := (ne_exa E_rv_41 E_r0_41 (by decide))
         have F_words_rv_42 := F_words_rv_41.other W42 (Or.inl u42_rv)
         have F_held_rv_42 := F_held_rv_41.other W42 (Or.inl u42_rv)
         have F_blocks_rv_42 := F_blocks_rv_41.other W42 (Or.inl u42_rv)
         have F_sorted_rv_42 := F_sorted_rv_41.other W42 (Or.inl u42_rv)
         have E_il_42 := E_il_41.wr W42
         have u42_il := (ne_exa E_il_41 E_r0_41 (by decide))
         have F_indices_il_42 := F_indices_il_41.other W42 (Or.inl u42_il)
         have F_size_il_42 := F_size_il_41.other W42 (Or.inl u42_il)
         have A_ix_42 := A_ix_41.other W42 (Ne.symm (own_ne_arf E_r0_41 (oW hw 7 rfl) A_ix_41))
         have A_wd_42 := A_wd_41.other W42 (Ne.symm (own_ne_arf E_r0_41 (oW hw 7 rfl) A_wd_41))
         have A_hd_42 := A_hd_41.other W42 (Ne.symm (own_ne_arf E_r0_41 (oW hw 7 rfl) A_hd_41))
         have A_b14_42 := A_b14_41.other W42 (Ne.symm ne_r0_b14)
         have A_b17_42 := A_b17_41.other W42 (Ne.symm ne_r0_b17)
         have A_b41_42 := A_b41_41.other W42 (Ne.symm ne_r0_b41)
         have N42 := Fr.snoc X42 N25 ge_r0
         have Z42 : n0 ≤ h42.size := Nat.le_trans Z41 (Keep.of_wr W42).1
         have F_senders_r0_42 := F_senders_r0_41.same W42
         refine own_go (fun tg k => st42 tg k) ?_
         refine own_go (fun _ k => XS.aloadN X42.here hx rfl (hb hby d11_422) rfl rfl (XS.aloadN X42.here hx rfl (hb hby d11_423) rfl rfl k)) ?_
         obtain ⟨T43, X43, e43, st43⟩ := getF X42 hx hZ hown (host := "") (Or.inl (oW hw 127 rfl)) Via.refl e42 F_delivered_r0_42 (g := (mkF m 424 #[oR r0, oI p1, .val (.long (own_tot (own_tot (0 : Int64) La) Lb)), oS, oI ps, oI i, j6O, j7O, j821, j921, oU] [(.ref r0), (.ref r0)])) rfl rfl (hb hby d11_424)
         refine own_go (fun tg k => st43 tg k) ?_
         obtain ⟨T44, h44, k44, X44, e44, E44, A44, st44⟩ := newP X43 hx hZ (oW hw 56 rfl) e43 (g := (mkF m 427 #[oR r0, oI p1, .val (.long (own_tot (own_tot (0 : Int64) La) Lb)), oS, oI ps, oI i, j6O, j7O, j821, j921, oU] [(.int ((own_tot (own_tot (0 : Int64) La) Lb).toInt32)), (.ref r0)])) rfl (hb hby d11_427) rfl (own_dl hl).1 (cap := 4) (own_dl hl).2 (by decide) (by decide) (by decide)
         obtain ⟨b44, g44⟩ : ∃ z, z = h42.size := ⟨_, rfl⟩
         rw [← g44] at A44 st44
         have ne_r0_b44 : r0 ≠ b44 := Nat.ne_of_lt (Nat.lt_of_lt_of_le E_r0_42.lt (Nat.le_of_eq g44.symm))
         have ne_ob_b44 : ob ≠ b44 := Nat.ne_of_lt (Nat.lt_of_lt_of_le O_ob_42.lt (Nat.le_of_eq g44.symm))
         have ne_rv_b44 : rv ≠ b44 := Nat.ne_of_lt (Nat.lt_of_lt_of_le E_rv_42.lt (Nat.le_of_eq g44.symm))
         have ne_il_b44 : il ≠ b44 := Nat.ne_of_lt (Nat.lt_of_lt_of_le E_il_42.lt (Nat.le_of_eq g44.symm))
         have ne_ix_b44 : ix ≠ b44 := Nat.ne_of_lt (Nat.lt_of_lt_of_le A_ix_42.lt (Nat.le_of_eq g44.symm))
         have ne_wd_b44 : wd ≠ b44 := Nat.ne_of_lt (Nat.lt_of_lt_of_le A_wd_42.lt (Nat.le_of_eq g44.symm))
         have ne_hd_b44 : hd ≠ b44 := Nat.ne_of_lt (Nat.lt_of_lt_of_le A_hd_42.lt (Nat.le_of_eq g44.symm))
         have ne_b14_b44 : b14 ≠ b44 := Nat.ne_of_lt (Nat.lt_of_lt_of_le A_b14_42.lt (Nat.le_of_eq g44.symm))
         have ne_b17_b44 : b17 ≠ b44 := Nat.ne_of_lt (Nat.lt_of_lt_of_le A_b17_42.lt (Nat.le_of_eq g44.symm))
         have ne_b41_b44 : b41 ≠ b44 := Nat.ne_of_lt (Nat.lt_of_lt_of_le A_b41_42.lt (Nat.le_of_eq g44.symm))
         have nb_b44_0 : b44 ∉ Da := B_0_42.nin (Nat.le_of_eq g44.symm)
         have nb_b44_1 : b44 ∉ Db := B_1_42.nin (Nat.le_of_eq g44.symm)
         have ge_b44 : n0 ≤ b44 := Nat.le_trans Z42 (Nat.le_of_eq g44.symm)
         have E_r0_44 := E_r0_42.ext E44
         have F_receivers_r0_44 := F_receivers_r0_42.ext E44
         have F_outboxes_r0_44 := F_outboxes_r0_42.ext E44
         have F_recipients_r0_44 := F_recipients_r0_42.ext E44
         have F_delivered_r0_44 := F_delivered_r0_42.ext E44
         have F_senders_r0_44 := F_senders_r0_42.ext E44
         have F_messages_r0_44 := F_messages_r0_42.ext E44
         have F_first_r0_44 := F_first_r0_42.ext E44
         have F_end_r0_44 := F_end_r0_42.ext E44
         have O_ob_44 := O_ob_42.ext E44
         have B_0_44 := B_0_42.ext E44
         have B_1_44 := B_1_42.ext E44
         have E_rv_44 := E_rv_42.ext E44
         have F_words_rv_44 := F_words_rv_42.ext E44
         have F_held_rv_44 := F_held_rv_42.ext E44
         have F_blocks_rv_44 := F_blocks_rv_42.ext E44
         have F_sorted_rv_44 := F_sorted_rv_42.ext E44
         have E_il_44 := E_il_42.ext E44
         have F_indices_il_44 := F_indices_il_42.ext E44
         have F_size_il_44 := F_size_il_42.ext E44
         have A_ix_44 := A_ix_42.ext E44
         have A_wd_44 := A_wd_42.ext E44
         have A_hd_44 := A_hd_42.ext E44
         have A_b14_44 := A_b14_42.ext E44
         have A_b17_44 := A_b17_42.ext E44
         have A_b41_44 := A_b41_42.ext E44
         have Z44 : n0 ≤ h44.size := Nat.le_trans Z42 E44.1
         have A_b44_44 : own_Arf Z h44 b44 .long ((own_tot (own_tot (0 : Int64) La) Lb).toInt32) (fun i => .long ((fun _ => (0 : Int64)) i)) := own_Arf.new A44 (own_dl hl).1
         refine own_go (fun tg k => st44 tg k) ?_
         obtain ⟨T45, h45, X45, e45, W45, st45⟩ := putF X44 hx hZ hown (host := "") (Or.inl (oW hw 131 rfl)) Via.refl e44 F_messages_r0_44 E_r0_44 (Or.inl (oW hw 132 rfl)) (oW hw 7 rfl) (ty := (.array .long)) (by decide) rfl rfl (g := (mkF m 429 #[oR r0, oI p1, .val (.long (own_tot (own_tot (0 : Int64) La) Lb)), oS, oI ps, oI i, j6O, j7O, j821, j921, oU] [(.ref b44), (.ref r0)])) rfl rfl (hb hby d11_429)
         have E_r0_45 := E_r0_44.wr W45
         have F_receivers_r0_45 := F_receivers_r0_44.other W45 (Or.inr (own_sn675 hw))
         have F_outboxes_r0_45 := F_outboxes_r0_44.other W45 (Or.inr (own_sn676 hw))
         have F_recipients_r0_45 := F_recipients_r0_44.other W45 (Or.inr (own_sn677 hw))
         have F_delivered_r0_45 := F_delivered_r0_44.other W45 (Or.inr (own_sn678 hw))
         have F_senders_r0_45 := F_senders_r0_44.other W45 (Or.inr (own_sn679 hw))
         have F_first_r0_45 := F_first_r0_44.other W45 (Or.inr (own_sn680 hw))
         have F_end_r0_45 := F_end_r0_44.other W45 (Or.inr (own_sn681 hw))
         have O_ob_45 := O_ob_44.other W45 (Ne.symm (own_ne_oa E_r0_44 (oW hw 7 rfl) O_ob_44))
         have B_0_45 := B_0_44.other W45 nb_r0_0
         have B_1_45 := B_1_44.other W45 nb_r0_1
         have E_rv_45 := E_rv_44.wr W45
         have u45_rv := (ne_exa E_rv_44 E_r0_44 (by decide))
         have F_words_rv_45 := F_words_rv_44.other W45 (Or.inl u45_rv)
         have F_held_rv_45 := F_held_rv_44.other W45 (Or.inl u45_rv)
         have F_blocks_rv_45 := F_blocks_rv_44.other W45 (Or.inl u45_rv)
         have F_sorted_rv_45 := F_sorted_rv_44.other W45 (Or.inl u45_rv)
         have E_il_45 := E_il_44.wr W45
         have u45_il := (ne_exa E_il_44 E_r0_44 (by decide))
         have F_indices_il_45 := F_indices_il_44.other W45 (Or.inl u45_il)
         have F_size_il_45 := F_size_il_44.other W45 (Or.inl u45_il)
         have A_ix_45 := A_ix_44.other W45 (Ne.symm (own_ne_arf E_r0_44 (oW hw 7 rfl) A_ix_44))
         have A_wd_45 := A_wd_44.other W45 (Ne.symm (own_ne_arf E_r0_44 (oW hw 7 rfl) A_wd_44))
         have A_hd_45 := A_hd_44.other W45 (Ne.symm (own_ne_arf E_r0_44 (oW hw 7 rfl) A_hd_44))
         have A_b14_45 := A_b14_44.other W45 (Ne.symm ne_r0_b14)
         have A_b17_45 := A_b17_44.other W45 (Ne.symm ne_r0_b17)
         have A_b41_45 := A_b41_44.other W45 (Ne.symm ne_r0_b41)
         have A_b44_45 := A_b44_44.other W45 (Ne.symm ne_r0_b44)
         have N45 := Fr.snoc X45 N42 ge_r0
         have Z45 : n0 ≤ h45.size := Nat.le_trans Z44 (Keep.of_wr W45).1
         have F_messages_r0_45 := F_messages_r0_44.same W45
         refine own_go (fun tg k => st45 tg k) ?_
         refine own_go (fun _ k => XS.aloadN X45.here hx rfl (hb hby d11_432) rfl rfl k) ?_
         obtain ⟨T46, X46, e46, st46⟩ := getF X45 hx hZ hown (host := "") (Or.inl (oW hw 29 rfl)) Via.refl e45 F_outboxes_r0_45 (g := (mkF m 433 #[oR r0, oI p1, .val (.long (own_tot (own_tot (0 : Int64) La) Lb)), oS, oI ps, oI i, j6O, j7O, j821, j921, oU] [(.ref r0)])) rfl rfl (hb hby d11_433)
         refine own_go (fun tg k => st46 tg k) ?_
         refine own_go (fun _ k => XS.astore X46.here hx rfl (hb hby d11_436) rfl rfl (l' := #[oR r0, oI p1, .val (.long (own_tot (own_tot (0 : Int64) La) Lb)), oS, oI ps, oR ob, j6O, j7O, j821, j921, oU]) rfl (XS.aload X46.here hx rfl (hb hby d11_438) rfl rfl k)) ?_
         refine own_go (fun tg k => own_oalen X46 hx hZ e46 O_ob_45 (g := (mkF m 440 #[oR r0, oI p1, .val (.long (own_tot (own_tot (0 : Int64) La) Lb)), oS, oI ps, oR ob, j6O, j7O, j821, j921, oU] [(.ref ob)])) rfl rfl (hb hby d11_440) tg k) ?_
         refine own_go (fun _ k => XS.istoreS X46.here hx rfl (hb hby d11_441) rfl rfl hj6O (XS.iconst X46.here hx rfl (hb hby d11_443) (XS.istoreS X46.here hx rfl (hb hby d11_444) rfl rfl hj7O (XS.iload X46.here hx rfl (hb hby d11_446) rfl (XS.iload X46.here hx rfl (hb hby d11_448) rfl (XS.icmpNo X46.here hx rfl (hb hby d11_450) rfl (tlt (by decide)).2.1 (XS.aload X46.here hx rfl (hb hby d11_453) rfl rfl (XS.iload X46.here hx rfl (hb hby d11_455) rfl k)))))))) ?_
         refine own_go (fun tg k => own_oald X46 hx hZ e46 O_ob_45 (v := v0) (Or.inl ⟨rfl, rfl⟩) (g := (mkF m 457 #[oR r0, oI p1, .val (.long (own_tot (own_tot (0 : Int64) La) Lb)), oS, oI ps, oR ob, oI 2, oI 0, j821, j921, oU] [(.int 0), (.ref ob)])) rfl rfl (hb hby d11_457) tg k) ?_
         show oF (T46.setTop (mkF m 458 #[oR r0, oI p1, .val (.long (own_tot (own_tot (0 : Int64) La) Lb)), oS, oI ps, oR ob, oI 2, oI 0, j821, j921, oU] [v0]))
         have hk47 : ∀ (sX : Nat → Int32) (mX : Nat → Int64) (T47L : State) (L47L : List Loc) (h47L : Heap) (j847 : Slot) (j947 : Slot) (j1047 : Slot), Stand p l e rm11f_room s m #[(.ref r0), (.int p1)] below meth c T47L L47L 4 6152 → Fr n0 L47L → T47L.heap = h47L → One j847 → One j947 → One j1047 → n0 ≤ h47L.size → Exa Z h47L r0 oC0 → Fld Z h47L r0 oC0 "receivers" "I" (.int n) → Fld Z h47L r0 oC0 "outboxes" oC4 (.ref ob) → Fld Z h47L r0 oC0 "recipients" oC6 (.ref rv) → Fld Z h47L r0 oC0 "delivered" "I" (.int ((own_tot (own_tot (0 : Int64) La) Lb).toInt32)) → Fld Z h47L r0 oC0 "senders" "[I" (.ref b41) → Fld Z h47L r0 oC0 "messages" "[J" (.ref b44) → Fld Z h47L r0 oC0 "first" "[I" (.ref b14) → Fld Z h47L r0 oC0 "end" "[I" (.ref b17) → own_Oa Z h47L ob oC2 v0 v1 → own_Box Z h47L n0 v0 Da [] → own_Box Z h47L n0 v1 Db Lb → Exa Z h47L rv oC1 → Fld Z h47L rv oC1 "words" "[J" (.ref wd) → Fld Z h47L rv oC1 "held" "[Z" (.ref hd) → Fld Z h47L rv oC1 "blocks" oC5 (.ref il) → Fld Z h47L rv oC1 "sorted" "Z" (.int 1) → Exa Z h47L il oC3 → Fld Z h47L il oC3 "indices" "[I" (.ref ix) → Fld Z h47L il oC3 "size" "I" (.int (own_adds (own_adds (own_v0 fi) La) Lb).k_) → own_Arf Z h47L ix .int (16 : Int32) (fun i => .int (gx23 i)) → own_Arf Z h47L wd .long (nb * (16 : Int32)) (fun i => .long ((own_adds (own_adds (own_v0 fi) La) Lb).w_ i)) → own_Arf Z h47L hd .boolean nb (fun i => .int ((own_adds (own_adds (own_v0 fi) La) Lb).h_ i)) → own_Arf Z h47L b14 .int n (fun i => .int (fF i)) → own_Arf Z h47L b17 .int n (fun i => .int ((own_cnt eF La) i)) → own_Arf Z h47L b41 .int ((own_tot (own_tot (0 : Int64) La) Lb).toInt32) (fun i => .int (sX i)) → own_Arf Z h47L b44 .long ((own_tot (own_tot (0 : Int64) La) Lb).toInt32) (fun i => .long (mX i)) → own_Fin p.tables e below s (Qrm11f Z r0 p1 n La Lb h0 n0) rm11f_room.cells rm11f_room.slots (T47L.setTop (mkF m 540 #[oR r0, oI p1, .val (.long (own_tot (own_tot (0 : Int64) La) Lb)), oS, oI ps, oR ob, oI 2, oI 0, j847, j947, j1047] [])) := by
          intro sX mX T47L L47L h47L j847 j947 j1047 X47L N47L e47L hj847 hj947 hj1047 Z47L E_r0_47L F_receivers_r0_47L F_outboxes_r0_47L F_recipients_r0_47L F_delivered_r0_47L F_senders_r0_47L F_messages_r0_47L F_first_r0_47L F_end_r0_47L O_ob_47L B_0_47L B_1_47L E_rv_47L F_words_rv_47L F_held_rv_47L F_blocks_rv_47L F_sorted_rv_47L E_il_47L F_indices_il_47L F_size_il_47L A_ix_47L A_wd_47L A_hd_47L A_b14_47L A_b17_47L A_b41_47L A_b44_47L
          show oF (T47L.setTop (mkF m 540 #[oR r0, oI p1, .val (.long (own_tot (own_tot (0 : Int64) La) Lb)), oS, oI ps, oR ob, oI 2, oI 0, j847, j947, j1047] []))
          refine own_go (fun _ k => XS.iinc X47L.here hx rfl (hb hby d11_540) rfl (l' := #[oR r0, oI p1, .val (.long (own_tot (own_tot (0 : Int64) La) Lb)), oS, oI ps, oR ob, oI 2, oI 1, j847, j947, j1047]) rfl k) ?_
          show oF (T47L.setTop (mkF m 543 #[oR r0, oI p1, .val (.long (own_tot (own_tot (0 : Int64) La) Lb)), oS, oI ps, oR ob, oI 2, oI 1, j847, j947, j1047] []))
          refine own_go (fun _ k => XS.goto X47L.here hx rfl (pc0 := 543) (pc' := 446) rfl (hb hby d11_543) (by decide) (by decide) (XS.iload X47L.here hx rfl (hb hby d11_446) rfl (XS.iload X47L.here hx rfl (hb hby d11_448) rfl (XS.icmpNo X47L.here hx rfl (hb hby d11_450) rfl (tlt (by decide)).2.1 (XS.aload X47L.here hx rfl (hb hby d11_453) rfl rfl (XS.iload X47L.here hx rfl (hb hby d11_455) rfl k)))))) ?_
          refine own_go (fun tg k => own_oald X47L hx hZ e47L O_ob_47L (v := v1) (Or.inr ⟨rfl, rfl⟩) (g := (mkF m 457 #[oR r0, oI p1, .val (.long (own_tot (own_tot (0 : Int64) La) Lb)), oS, oI ps, oR ob, oI 2, oI 1, j847, j947, j1047] [(.int 1), (.ref ob)])) rfl rfl (hb hby d11_457) tg k) ?_
          show oF (T47L.setTop (mkF m 458 #[oR r0, oI p1, .val (.long (own_tot (own_tot (0 : Int64) La) Lb)), oS, oI ps, oR ob, oI 2, oI 1, j847, j947, j1047] [v1]))
          have hk48 : ∀ (sX : Nat → Int32) (mX : Nat → Int64) (T48L : State) (L48L : List Loc) (h48L : Heap) (j848 : Slot) (j948 : Slot) (j1048 : Slot), Stand p l e rm11f_room s m #[(.ref r0), (.int p1)] below meth c T48L L48L 4 6152 → Fr n0 L48L → T48L.heap = h48L → One j848 → One j948 → One j1048 → n0 ≤ h48L.size → Exa Z h48L r0 oC0 → Fld Z h48L r0 oC0 "receivers" "I" (.int n) → Fld Z h48L r0 oC0 "outboxes" oC4 (.ref ob) → Fld Z h48L r0 oC0 "recipients" oC6 (.ref rv) → Fld Z h48L r0 oC0 "delivered" "I" (.int ((own_tot (own_tot (0 : Int64) La) Lb).toInt32)) → Fld Z h48L r0 oC0 "senders" "[I" (.ref b41) → Fld Z h48L r0 oC0 "messages" "[J" (.ref b44) → Fld Z h48L r0 oC0 "first" "[I" (.ref b14) → Fld Z h48L r0 oC0 "end" "[I" (.ref b17) → own_Oa Z h48L ob oC2 v0 v1 → own_Box Z h48L n0 v0 Da [] → own_Box Z h48L n0 v1 Db [] → Exa Z h48L rv oC1 → Fld Z h48L rv oC1 "words" "[J" (.ref wd) → Fld Z h48L rv oC1 "held" "[Z" (.ref hd) → Fld Z h48L rv oC1 "blocks" oC5 (.ref il) → Fld Z h48L rv oC1 "sorted" "Z" (.int 1) → Exa Z h48L il oC3 → Fld Z h48L il oC3 "indices" "[I" (.ref ix) → Fld Z h48L il oC3 "size" "I" (.int (own_adds (own_adds (own_v0 fi) La) Lb).k_) → own_Arf Z h48L ix .int (16 : Int32) (fun i => .int (gx23 i)) → own_Arf Z h48L wd .long (nb * (16 : Int32)) (fun i => .long ((own_adds (own_adds (own_v0 fi) La) Lb).w_ i)) → own_Arf Z h48L hd .boolean nb (fun i => .int ((own_adds (own_adds (own_v0 fi) La) Lb).h_ i)) → own_Arf Z h48L b14 .int n (fun i => .int (fF i)) → own_Arf Z h48L b17 .int n (fun i => .int ((own_cnt (own_cnt eF La) Lb) i)) → own_Arf Z h48L b41 .int ((own_tot (own_tot (0 : Int64) La) Lb).toInt32) (fun i => .int (sX i)) → own_Arf Z h48L b44 .long ((own_tot (own_tot (0 : Int64) La) Lb).toInt32) (fun i => .long (mX i)) → own_Fin p.tables e below s (Qrm11f Z r0 p1 n La Lb h0 n0) rm11f_room.cells rm11f_room.slots (T48L.setTop (mkF m 540 #[oR r0, oI p1, .val (.long (own_tot (own_tot (0 : Int64) La) Lb)), oS, oI ps, oR ob, oI 2, oI 1, j848, j948, j1048] [])) := by
           intro sX mX T48L L48L h48L j848 j948 j1048 X48L N48L e48L hj848 hj948 hj1048 Z48L E_r0_48L F_receivers_r0_48L F_outboxes_r0_48L F_recipients_r0_48L F_delivered_r0_48L F_senders_r0_48L F_messages_r0_48L F_first_r0_48L F_end_r0_48L O_ob_48L B_0_48L B_1_48L E_rv_48L F_words_rv_48L F_held_rv_48L F_blocks_rv_48L F_sorted_rv_48L E_il_48L F_indices_il_48L F_size_il_48L A_ix_48L A_wd_48L A_hd_48L A_b14_48L A_b17_48L A_b41_48L A_b44_48L
           show oF (T48L.setTop (mkF m 540 #[oR r0, oI p1, .val (.long (own_tot (own_tot (0 : Int64) La) Lb)), oS, oI ps, oR ob, oI 2, oI 1, j848, j948, j1048] []))
           refine own_go (fun _ k => XS.iinc X48L.here hx rfl (hb hby d11_540) rfl (l' := #[oR r0, oI p1, .val (.long (own_tot (own_tot (0 : Int64) La) Lb)), oS, oI ps, oR ob, oI 2, oI 2, j848, j948, j1048]) rfl k) ?_
           show oF (T48L.setTop (mkF m 543 #[oR r0, oI p1, .val (.long (own_tot (own_tot (0 : Int64) La) Lb)), oS, oI ps, oR ob, oI 2, oI 2, j848, j948, j1048] []))
           refine own_go (fun _ k => XS.goto X48L.here hx rfl (pc0 := 543) (pc' := 446) rfl (hb hby d11_543) (by decide) (by decide) (XS.iload X48L.here hx rfl (hb hby d11_446) rfl (XS.iload X48L.here hx rfl (hb hby d11_448) rfl (XS.icmpYes X48L.here hx rfl (pc0 := 450) (pc' := 546) rfl (hb hby d11_450) rfl (flt (by decide)).2.1 (by decide) (by decide) k)))) ?_
           show oF (T48L.setTop (mkF m 546 #[oR r0, oI p1, .val (.long (own_tot (own_tot (0 : Int64) La) Lb)), oS, oI ps, oR ob, oI 2, oI 2, j848, j948, j1048] []))
           refine own_go (fun _ k => XS.iconst X48L.here hx rfl (hb hby d11_546) k) ?_
           refine own_ret X48L hx hlk Bd.returns rfl (Or.inl ⟨rfl, by simp, _, rfl⟩) (hb hby d11_547) (Nat.le_of_ble_eq_true rfl) (Nat.le_of_ble_eq_true rfl) ?_
           rw [e48L]
           refine ⟨?_, N48L, (by have q : s.heap.size ≤ T48L.heap.size := X48L.same.2.1; rw [hh, e48L] at q; exact q), ?_⟩
           · rw [own_dr1 hc11]; rfl
           · first | (exact Or.inr ⟨ob, rv, ((own_tot (own_tot (0 : Int64) La) Lb).toInt32), (.ref b41), (.ref b44), b14, b17, v0, v1, Da, Db, wd, hd, il, ix, nb, gx23, (own_adds (own_adds (own_v0 fi) La) Lb).k_, (own_adds (own_adds (own_v0 fi) La) Lb).w_, (own_adds (own_adds (own_v0 fi) La) Lb).h_, fF, E_r0_48L, F_receivers_r0_48L, F_outboxes_r0_48L, F_recipients_r0_48L, F_delivered_r0_48L, F_senders_r0_48L, F_messages_r0_48L, F_first_r0_48L, F_end_r0_48L, O_ob_48L, B_0_48L, B_1_48L, E_rv_48L, F_words_rv_48L, F_held_rv_48L, F_blocks_rv_48L, F_sorted_rv_48L, E_il_48L, F_indices_il_48L, F_size_il_48L, A_ix_48L, A_wd_48L, A_hd_48L, A_b14_48L, (own_Arf.fn A_b17_48L (fun j hj => congrArg Value.int (own_EEx hn hSc j hj))), ne_b14_b17, ne_ix_b14, ne_ix_b17, Pq23_9, hm, ge_r0, ge_rv, ge_wd, ge_hd, ge_il, ge_ix, ge_b14, ge_b17, ge_ob, nb_r0_0, nb_r0_1, nb_rv_0, nb_rv_1, nb_wd_0, nb_wd_1, nb_hd_0, nb_hd_1, nb_il_0, nb_il_1, nb_ix_0, nb_ix_1, nb_b14_0, nb_b14_1, nb_b17_0, nb_b17_1, nb_ob_0, nb_ob_1, hdj, hn⟩) | (simp only [if_neg hc11, if_neg hc26]; exact Or.inr ⟨ob, rv, ((own_tot (own_tot (0 : Int64) La) Lb).toInt32), (.ref b41), (.ref b44), b14, b17, v0, v1, Da, Db, wd, hd, il, ix, nb, gx23, (own_adds (own_adds (own_v0 fi) La) Lb).k_, (own_adds (own_adds (own_v0 fi) La) Lb).w_, (own_adds (own_adds (own_v0 fi) La) Lb).h_, fF, E_r0_48L, F_receivers_r0_48L, F_outboxes_r0_48L, F_recipients_r0_48L, F_delivered_r0_48L, F_senders_r0_48L, F_messages_r0_48L, F_first_r0_48L, F_end_r0_48L, O_ob_48L, B_0_48L, B_1_48L, E_rv_48L, F_words_rv_48L, F_held_rv_48L, F_blocks_rv_48L, F_sorted_rv_48L, E_il_48L, F_indices_il_48L, F_size_il_48L, A_ix_48L, A_wd_48L, A_hd_48L, A_b14_48L, (own_Arf.fn A_b17_48L (fun j hj => congrArg Value.int (own_EEx hn hSc j hj))), ne_b14_b17, ne_ix_b14, ne_ix_b17, Pq23_9, hm, ge_r0, ge_rv, ge_wd, ge_hd, ge_il, ge_ix, ge_b14, ge_b17, ge_ob, nb_r0_0, nb_r0_1, nb_rv_0, nb_rv_1, nb_wd_0, nb_wd_1, nb_hd_0, nb_hd_1, nb_il_0, nb_il_1, nb_ix_0, nb_ix_1, nb_b14_0, nb_b14_1, nb_b17_0, nb_b17_1, nb_ob_0, nb_ob_1, hdj, hn⟩)
          obtain ⟨hl49, ⟨hv49, hD49, hL49⟩ | ⟨xa49, xb49, xc49, xd49, q149, gg49, q349, hv49, hD49, hB49, hg49⟩⟩ := id B_1_47L
          ·refine own_vr hv49 ?_
           show oF (T47L.setTop (mkF m 458 #[oR r0, oI p1, .val (.long (own_tot (own_tot (0 : Int64) La) Lb)), oS, oI ps, oR ob, oI 2, oI 1, j847, j947, j1047] [.null]))
           refine own_go (fun _ k => XS.astoreS X47L.here hx rfl (hb hby d11_458) rfl rfl rfl rfl hj847 (XS.aload X47L.here hx rfl (hb hby d11_460) rfl rfl (XS.ifnullYes X47L.here hx rfl (pc0 := 462) (pc' := 540) rfl (hb hby d11_462) rfl (by decide) (by decide) k))) ?_
           show oF (T47L.setTop (mkF m 540 #[oR r0, oI p1, .val (.long (own_tot (own_tot (0 : Int64) La) Lb)), oS, oI ps, oR ob, oI 2, oI 1, .val .null, j947, j1047] []))
           exact hk48 (sX) (mX) T47L _ h47L (.val .null) (j947) (j1047) (own_mono X47L (by decide) (by decide)) N47L e47L (One.val rfl) hj947 hj1047 Z47L E_r0_47L F_receivers_r0_47L F_outboxes_r0_47L F_recipients_r0_47L F_delivered_r0_47L F_senders_r0_47L F_messages_r0_47L F_first_r0_47L F_end_r0_47L O_ob_47L B_0_47L (by have q := B_1_47L; rw [hL49] at q; exact q) E_rv_47L F_words_rv_47L F_held_rv_47L F_blocks_rv_47L F_sorted_rv_47L E_il_47L F_indices_il_47L F_size_il_47L A_ix_47L A_wd_47L A_hd_47L A_b14_47L (by rw [hL49]; exact A_b17_47L) A_b41_47L A_b44_47L
          ·refine own_vr hv49 ?_
           show oF (T47L.setTop (mkF m 458 #[oR r0, oI p1, .val (.long (own_tot (own_tot (0 : Int64) La) Lb)), oS, oI ps, oR ob, oI 2, oI 1, j847, j947, j1047] [(.ref xa49)]))
           obtain ⟨⟨ge_xa49, ge_xb49, ge_xc49, ge_xd49, ne_xb49_xc49⟩, E_xa49_o, F_size_xa49_o, F_senders_xa49_o, F_receivers_xa49_o, F_messages_xa49_o, A_xb49_o, A_xc49_o, A_xd49_o⟩ := hB49
           refine own_go (fun _ k => XS.astoreS X47L.here hx rfl (hb hby d11_458) rfl rfl rfl rfl hj847 (XS.aload X47L.here hx rfl (hb hby d11_460) rfl rfl (XS.ifnullNo X47L.here hx rfl (hb hby d11_462) rfl (XS.iconst X47L.here hx rfl (hb hby d11_465) (XS.istoreS X47L.here hx rfl (hb hby d11_466) rfl rfl hj947 k))))) ?_
           show oF (T47L.setTop (mkF m 468 #[oR r0, oI p1, .val (.long (own_tot (own_tot (0 : Int64) La) Lb)), oS, oI ps, oR ob, oI 2, oI 1, oR xa49, oI 0, j1047] []))
           have loopP1 : ∀ (kP1 : Nat) (i : Int32) (eL : Nat → Int32) (sL : Nat → Int32) (mL : Nat → Int64) (TP1L : State) (LP1L : List Loc) (hP1L : Heap) (j10P1 : Slot), kP1 = Lb.length - i.toNatClampNeg → own_I3 (own_cnt eF La) Lb i eL → Stand p l e rm11f_room s m #[(.ref r0), (.int p1)] below meth c TP1L LP1L 4 6152 → Fr n0 LP1L → TP1L.heap = hP1L → One j10P1 → n0 ≤ hP1L.size → Exa Z hP1L r0 oC0 → Fld Z hP1L r0 oC0 "receivers" "I" (.int n) → Fld Z hP1L r0 oC0 "outboxes" oC4 (.ref ob) → Fld Z hP1L r0 oC0 "recipients" oC6 (.ref rv) → Fld Z hP1L r0 oC0 "delivered" "I" (.int ((own_tot (own_tot (0 : Int64) La) Lb).toInt32)) → Fld Z hP1L r0 oC0 "senders" "[I" (.ref b41) → Fld Z hP1L r0 oC0 "messages" "[J" (.ref b44) → Fld Z hP1L r0 oC0 "first" "[I" (.ref b14) → Fld Z hP1L r0 oC0 "end" "[I" (.ref b17) → own_Oa Z hP1L ob oC2 v0 v1 → own_Box Z hP1L n0 v0 Da [] → Exa Z hP1L rv oC1 → Fld Z hP1L rv oC1 "words" "[J" (.ref wd) → Fld Z hP1L rv oC1 "held" "[Z" (.ref hd) → Fld Z hP1L rv oC1 "blocks" oC5 (.ref il) → Fld Z hP1L rv oC1 "sorted" "Z" (.int 1) → Exa Z hP1L il oC3 → Fld Z hP1L il oC3 "indices" "[I" (.ref ix) → Fld Z hP1L il oC3 "size" "I" (.int (own_adds (own_adds (own_v0 fi) La) Lb).k_) → own_Arf Z hP1L ix .int (16 : Int32) (fun i => .int (gx23 i)) → own_Arf Z hP1L wd .long (nb * (16 : Int32)) (fun i => .long ((own_adds (own_adds (own_v0 fi) La) Lb).w_ i)) → own_Arf Z hP1L hd .boolean nb (fun i => .int ((own_adds (own_adds (own_v0 fi) La) Lb).h_ i)) → own_Arf Z hP1L b14 .int n (fun i => .int (fF i)) → own_Arf Z hP1L b17 .int n (fun i => .int (eL i)) → own_Arf Z hP1L b41 .int ((own_tot (own_tot (0 : Int64) La) Lb).toInt32) (fun i => .int (sL i)) → own_Arf Z hP1L b44 .long ((own_tot (own_tot (0 : Int64) La) Lb).toInt32) (fun i => .long (mL i)) → Exa Z hP1L xa49 oC2 → Fld Z hP1L xa49 oC2 "size" "I" (.int (Int32.ofNat Lb.length)) → Fld Z hP1L xa49 oC2 "senders" "[I" (.ref xb49) → Fld Z hP1L xa49 oC2 "receivers" "[I" (.ref xc49) → Fld Z hP1L xa49 oC2 "messages" "[J" (.ref xd49) → own_Arf Z hP1L xb49 .int (16 : Int32) (fun i => .int (q149 i)) → own_Arf Z hP1L xc49 .int (16 : Int32) (fun i => .int (gg49 i)) → own_Arf Z hP1L xd49 .long (16 : Int32) (fun i => .long (q349 i)) → own_Fin p.tables e below s (Qrm11f Z r0 p1 n La Lb h0 n0) rm11f_room.cells rm11f_room.slots (TP1L.setTop (mkF m 468 #[oR r0, oI p1, .val (.long (own_tot (own_tot (0 : Int64) La) Lb)), oS, oI ps, oR ob, oI 2, oI 1, oR xa49, oI i, j10P1] [])) := by
            intro kP1
            induction kP1 using Nat.strongRecOn with
            | _ kP1 ihP1 =>
             intro i eL sL mL TP1L LP1L hP1L j10P1 hkP1 hI XP1L NP1L eP1L hj10P1 ZP1L E_r0_P1L F_receivers_r0_P1L F_outboxes_r0_P1L F_recipients_r0_P1L F_delivered_r0_P1L F_senders_r0_P1L F_messages_r0_P1L F_first_r0_P1L F_end_r0_P1L O_ob_P1L B_0_P1L E_rv_P1L F_words_rv_P1L F_held_rv_P1L F_blocks_rv_P1L F_sorted_rv_P1L E_il_P1L F_indices_il_P1L F_size_il_P1L A_ix_P1L A_wd_P1L A_hd_P1L A_b14_P1L A_b17_P1L A_b41_P1L A_b44_P1L E_xa49_P1L F_size_xa49_P1L F_senders_xa49_P1L F_receivers_xa49_P1L F_messages_xa49_P1L A_xb49_P1L A_xc49_P1L A_xd49_P1L
             show oF (TP1L.setTop (mkF m 468 #[oR r0, oI p1, .val (.long (own_tot (own_tot (0 : Int64) La) Lb)), oS, oI ps, oR ob, oI 2, oI 1, oR xa49, oI i, j10P1] []))
             refine own_go (fun _ k => XS.iload XP1L.here hx rfl (hb hby d11_468) rfl (XS.aload XP1L.here hx rfl (hb hby d11_470) rfl rfl k)) ?_
             refine own_go (fun tg k => own_getFR XP1L hx hZ hown (oW hw 125 rfl) eP1L F_size_xa49_P1L (g := (mkF m 472 #[oR r0, oI p1, .val (.long (own_tot (own_tot (0 : Int64) La) Lb)), oS, oI ps, oR ob, oI 2, oI 1, oR xa49, oI i, j10P1] [(.ref xa49), (.int i)])) rfl rfl (hb hby d11_472) tg k) ?_
             by_cases hc50 : i < (Int32.ofNat Lb.length)
             ·refine own_go (fun _ k => XS.icmpNo XP1L.here hx rfl (hb hby d11_475) rfl (tlt hc50).2.1 (XS.aloadN XP1L.here hx rfl (hb hby d11_478) rfl rfl k)) ?_
              obtain ⟨T51, X51, e51, st51⟩ := getF XP1L hx hZ hown (host := "") (Or.inl (oW hw 69 rfl)) Via.refl eP1L F_end_r0_P1L (g := (mkF m 479 #[oR r0, oI p1, .val (.long (own_tot (own_tot (0 : Int64) La) Lb)), oS, oI ps, oR ob, oI 2, oI 1, oR xa49, oI i, j10P1] [(.ref r0)])) rfl rfl (hb hby d11_479)
              refine own_go (fun tg k => st51 tg k) ?_
              refine own_go (fun _ k => XS.aload X51.here hx rfl (hb hby d11_482) rfl rfl k) ?_
              refine own_go (fun tg k => own_getFR X51 hx hZ hown (oW hw 135 rfl) e51 F_receivers_xa49_P1L (g := (mkF m 484 #[oR r0, oI p1, .val (.long (own_tot (own_tot (0 : Int64) La) Lb)), oS, oI ps, oR ob, oI 2, oI 1, oR xa49, oI i, j10P1] [(.ref xa49), (.ref b17)])) rfl rfl (hb hby d11_484) tg k) ?_
              refine own_go (fun _ k => XS.iload X51.here hx rfl (hb hby d11_487) rfl k) ?_
              refine own_go (fun tg k => own_iaload X51 hx hZ e51 A_xc49_P1L (j := i) (own_ib3 hl49 hI hc50) (x := (gg49 i.toNatClampNeg)) rfl (g := (mkF m 489 #[oR r0, oI p1, .val (.long (own_tot (own_tot (0 : Int64) La) Lb)), oS, oI ps, oR ob, oI 2, oI 1, oR xa49, oI i, j10P1] [(.int i), (.ref xc49), (.ref b17)])) rfl rfl (hb hby d11_489) tg k) ?_
              refine own_go (fun _ k => Jvm.Free.XT.dup2 X51.here hx rfl (hb hby d11_490) rfl rfl rfl k) ?_
              refine own_go (fun tg k => own_iaload X51 hx hZ e51 A_b17_P1L (j := (gg49 i.toNatClampNeg)) (own_mem1 hm (own_gi_mem3 hl49 hg49 hI hc50)) (x := (eL (gg49 i.toNatClampNeg).toNatClampNeg)) rfl (g := (mkF m 491 #[oR r0, oI p1, .val (.long (own_tot (own_tot (0 : Int64) La) Lb)), oS, oI ps, oR ob, oI 2, oI 1, oR xa49, oI i, j10P1] [(.int (gg49 i.toNatClampNeg)), (.ref b17), (.int (gg49 i.toNatClampNeg)), (.ref b17)])) rfl rfl (hb hby d11_491) tg k) ?_
              refine own_go (fun _ k => own_dupX2 X51.here hx rfl (hb hby d11_492) rfl k) ?_
              refine own_go (fun _ k => XS.iconst X51.here hx rfl (hb hby d11_493) (XS.iadd X51.here hx rfl (hb hby d11_494) rfl k)) ?_
              obtain ⟨T52, h52, X52, e52, W52, A_b17_52, st52⟩ := own_stI X51 hx hZ e51 A_b17_P1L (j := (gg49 i.toNatClampNeg)) (own_mem1 hm (own_gi_mem3 hl49 hg49 hI hc50)) (g := (mkF m 495 #[oR r0, oI p1, .val (.long (own_tot (own_tot (0 : Int64) La) Lb)), oS, oI ps, oR ob, oI 2, oI 1, oR xa49, oI i, j10P1] [(.int ((eL (gg49 i.toNatClampNeg).toNatClampNeg) + (1 : Int32))), (.int (gg49 i.toNatClampNeg)), (.ref b17), (.int (eL (gg49 i.toNatClampNeg).toNatClampNeg))])) rfl rfl (hb hby d11_495)
              have E_r0_52 := E_r0_P1L.wr W52
              have F_receivers_r0_52 := F_receivers_r0_P1L.other W52 (Or.inl ne_r0_b17)
              have F_outboxes_r0_52 := F_outboxes_r0_P1L.other W52 (Or.inl ne_r0_b17)
              have F_recipients_r0_52 := F_recipients_r0_P1L.other W52 (Or.inl ne_r0_b17)
              have F_delivered_r0_52 := F_delivered_r0_P1L.other W52 (Or.inl ne_r0_b17)
              have F_senders_r0_52 := F_senders_r0_P1L.other W52 (Or.inl ne_r0_b17)
              have F_messages_r0_52 := F_messages_r0_P1L.other W52 (Or.inl ne_r0_b17)
              have F_first_r0_52 := F_first_r0_P1L.other W52 (Or.inl ne_r0_b17)
              have F_end_r0_52 := F_end_r0_P1L.other W52 (Or.inl ne_r0_b17)
              have O_ob_52 := O_ob_P1L.other W52 ne_ob_b17
              have B_0_52 := B_0_P1L.other W52 nb_b17_0
              have E_rv_52 := E_rv_P1L.wr W52
              have F_words_rv_52 := F_words_rv_P1L.other W52 (Or.inl ne_rv_b17)
              have F_held_rv_52 := F_held_rv_P1L.other W52 (Or.inl ne_rv_b17)
              have F_blocks_rv_52 := F_blocks_rv_P1L.other W52 (Or.inl ne_rv_b17)
              have F_sorted_rv_52 := F_sorted_rv_P1L.other W52 (Or.inl ne_rv_b17)
              have E_il_52 := E_il_P1L.wr W52
              have F_indices_il_52 := F_indices_il_P1L.other W52 (Or.inl ne_il_b17)
              have F_size_il_52 := F_size_il_P1L.other W52 (Or.inl ne_il_b17)
              have A_ix_52 := A_ix_P1L.other W52 ne_ix_b17
              have A_wd_52 := A_wd_P1L.other W52 ne_wd_b17
              have A_hd_52 := A_hd_P1L.other W52 ne_hd_b17
              have A_b14_52 := A_b14_P1L.other W52 ne_b14_b17
              have A_b41_52 := A_b41_P1L.other W52 (Ne.symm ne_b17_b41)
              have A_b44_52 := A_b44_P1L.other W52 (Ne.symm ne_b17_b44)
              have E_xa49_52 := E_xa49_P1L.wr W52
              have u52_xa49 := (Ne.symm (own_nx nb_b17_1 (i := 0) (by rw [hD49]; rfl)))
              have F_size_xa49_52 := F_size_xa49_P1L.other W52 (Or.inl u52_xa49)
              have F_senders_xa49_52 := F_senders_xa49_P1L.other W52 (Or.inl u52_xa49)
              have F_receivers_xa49_52 := F_receivers_xa49_P1L.other W52 (Or.inl u52_xa49)
              have F_messages_xa49_52 := F_messages_xa49_P1L.other W52 (Or.inl u52_xa49)
              have A_xb49_52 := A_xb49_P1L.other W52 (Ne.symm (own_nx nb_b17_1 (i := 1) (by rw [hD49]; rfl)))
              have A_xc49_52 := A_xc49_P1L.other W52 (Ne.symm (own_nx nb_b17_1 (i := 2) (by rw [hD49]; rfl)))
              have A_xd49_52 := A_xd49_P1L.other W52 (Ne.symm (own_nx nb_b17_1 (i := 3) (by rw [hD49]; rfl)))
              have N52 := Fr.snoc X52 NP1L ge_b17
              have Z52 : n0 ≤ h52.size := Nat.le_trans ZP1L (Keep.of_wr W52).1
              refine own_go (fun tg k => st52 tg k) ?_
              refine own_go (fun _ k => XS.istoreS X52.here hx rfl (hb hby d11_496) rfl rfl hj10P1 (XS.aloadN X52.here hx rfl (hb hby d11_498) rfl rfl k)) ?_
              obtain ⟨T53, X53, e53, st53⟩ := getF X52 hx hZ hown (host := "") (Or.inl (oW hw 129 rfl)) Via.refl e52 F_senders_r0_52 (g := (mkF m 499 #[oR r0, oI p1, .val (.long (own_tot (own_tot (0 : Int64) La) Lb)), oS, oI ps, oR ob, oI 2, oI 1, oR xa49, oI i, .val (.int (eL (gg49 i.toNatClampNeg).toNatClampNeg))] [(.ref r0)])) rfl rfl (hb hby d11_499)
              refine own_go (fun tg k => st53 tg k) ?_
              refine own_go (fun _ k => XS.iload X53.here hx rfl (hb hby d11_502) rfl (XS.aload X53.here hx rfl (hb hby d11_504) rfl rfl k)) ?_
              refine own_go (fun tg k => own_getFR X53 hx hZ hown (oW hw 179 rfl) e53 F_senders_xa49_52 (g := (mkF m 506 #[oR r0, oI p1, .val (.long (own_tot (own_tot (0 : Int64) La) Lb)), oS, oI ps, oR ob, oI 2, oI 1, oR xa49, oI i, .val (.int (eL (gg49 i.toNatClampNeg).toNatClampNeg))] [(.ref xa49), (.int (eL (gg49 i.toNatClampNeg).toNatClampNeg)), (.ref b41)])) rfl rfl (hb hby d11_506) tg k) ?_
              refine own_go (fun _ k => XS.iload X53.here hx rfl (hb hby d11_509) rfl k) ?_
              refine own_go (fun tg k => own_iaload X53 hx hZ e53 A_xb49_52 (j := i) (own_ib3 hl49 hI hc50) (x := (q149 i.toNatClampNeg)) rfl (g := (mkF m 511 #[oR r0, oI p1, .val (.long (own_tot (own_tot (0 : Int64) La) Lb)), oS, oI ps, oR ob, oI 2, oI 1, oR xa49, oI i, .val (.int (eL (gg49 i.toNatClampNeg).toNatClampNeg))] [(.int i), (.ref xb49), (.int (eL (gg49 i.toNatClampNeg).toNatClampNeg)), (.ref b41)])) rfl rfl (hb hby d11_511) tg k) ?_
              obtain ⟨T54, h54, X54, e54, W54, A_b41_54, st54⟩ := own_stI X53 hx hZ e53 A_b41_52 (j := (eL (gg49 i.toNatClampNeg).toNatClampNeg)) (own_place1 hn hl hm hSc hl49 hg49 hI hc50) (g := (mkF m 512 #[oR r0, oI p1, .val (.long (own_tot (own_tot (0 : Int64) La) Lb)), oS, oI ps, oR ob, oI 2, oI 1, oR xa49, oI i, .val (.int (eL (gg49 i.toNatClampNeg).toNatClampNeg))] [(.int (q149 i.toNatClampNeg)), (.int (eL (gg49 i.toNatClampNeg).toNatClampNeg)), (.ref b41)])) rfl rfl (hb hby d11_512)
              have E_r0_54 := E_r0_52.wr W54
              have F_receivers_r0_54 := F_receivers_r0_52.other W54 (Or.inl ne_r0_b41)
              have F_outboxes_r0_54 := F_outboxes_r0_52.other W54 (Or.inl ne_r0_b41)
              have F_recipients_r0_54 := F_recipients_r0_52.other W54 (Or.inl ne_r0_b41)
              have F_delivered_r0_54 := F_delivered_r0_52.other W54 (Or.inl ne_r0_b41)
              have F_senders_r0_54 := F_senders_r0_52.other W54 (Or.inl ne_r0_b41)
              have F_messages_r0_54 := F_messages_r0_52.other W54 (Or.inl ne_r0_b41)
              have F_first_r0_54 := F_first_r0_52.other W54 (Or.inl ne_r0_b41)
              have F_end_r0_54 := F_end_r0_52.other W54 (Or.inl ne_r0_b41)
              have O_ob_54 := O_ob_52.other W54 ne_ob_b41
              have B_0_54 := B_0_52.other W54 nb_b41_0
              have E_rv_54 := E_rv_52.wr W54
              have F_words_rv_54 := F_words_rv_52.other W54 (Or.inl ne_rv_b41)
              have F_held_rv_54 := F_held_rv_52.other W54 (Or.inl ne_rv_b41)
              have F_blocks_rv_54 := F_blocks_rv_52.other W54 (Or.inl ne_rv_b41)
              have F_sorted_rv_54 := F_sorted_rv_52.other W54 (Or.inl ne_rv_b41)
              have E_il_54 := E_il_52.wr W54
              have F_indices_il_54 := F_indices_il_52.other W54 (Or.inl ne_il_b41)
              have F_size_il_54 := F_size_il_52.other W54 (Or.inl ne_il_b41)
              have A_ix_54 := A_ix_52.other W54 ne_ix_b41
              have A_wd_54 := A_wd_52.other W54 ne_wd_b41
              have A_hd_54 := A_hd_52.other W54 ne_hd_b41
              have A_b14_54 := A_b14_52.other W54 ne_b14_b41
              have A_b17_54 := A_b17_52.other W54 ne_b17_b41
              have A_b44_54 := A_b44_52.other W54 (Ne.symm ne_b41_b44)
              have E_xa49_54 := E_xa49_52.wr W54
              have u54_xa49 := (Ne.symm (own_nx nb_b41_1 (i := 0) (by rw [hD49]; rfl)))
              have F_size_xa49_54 := F_size_xa49_52.other W54 (Or.inl u54_xa49)
              have F_senders_xa49_54 := F_senders_xa49_52.other W54 (Or.inl u54_xa49)
              have F_receivers_xa49_54 := F_receivers_xa49_52.other W54 (Or.inl u54_xa49)
              have F_messages_xa49_54 := F_messages_xa49_52.other W54 (Or.inl u54_xa49)
              have A_xb49_54 := A_xb49_52.other W54 (Ne.symm (own_nx nb_b41_1 (i := 1) (by rw [hD49]; rfl)))
              have A_xc49_54 := A_xc49_52.other W54 (Ne.symm (own_nx nb_b41_1 (i := 2) (by rw [hD49]; rfl)))
              have A_xd49_54 := A_xd49_52.other W54 (Ne.symm (own_nx nb_b41_1 (i := 3) (by rw [hD49]; rfl)))
              have N54 := Fr.snoc X54 N52 ge_b41
              have Z54 : n0 ≤ h54.size := Nat.le_trans Z52 (Keep.of_wr W54).1
              refine own_go (fun tg k => st54 tg k) ?_
              refine own_go (fun _ k => XS.aloadN X54.here hx rfl (hb hby d11_513) rfl rfl k) ?_
              obtain ⟨T55, X55, e55, st55⟩ := getF X54 hx hZ hown (host := "") (Or.inl (oW hw 131 rfl)) Via.refl e54 F_messages_r0_54 (g := (mkF m 514 #[oR r0, oI p1, .val (.long (own_tot (own_tot (0 : Int64) La) Lb)), oS, oI ps, oR ob, oI 2, oI 1, oR xa49, oI i, .val (.int (eL (gg49 i.toNatClampNeg).toNatClampNeg))] [(.ref r0)])) rfl rfl (hb hby d11_514)
              refine own_go (fun tg k => st55 tg k) ?_
              refine own_go (fun _ k => XS.iload X55.here hx rfl (hb hby d11_517) rfl (XS.aload X55.here hx rfl (hb hby d11_519) rfl rfl k)) ?_
              refine own_go (fun tg k => own_getFR X55 hx hZ hown (oW hw 180 rfl) e55 F_messages_xa49_54 (g := (mkF m 521 #[oR r0, oI p1, .val (.long (own_tot (own_tot (0 : Int64) La) Lb)), oS, oI ps, oR ob, oI 2, oI 1, oR xa49, oI i, .val (.int (eL (gg49 i.toNatClampNeg).toNatClampNeg))] [(.ref xa49), (.int (eL (gg49 i.toNatClampNeg).toNatClampNeg)), (.ref b44)])) rfl rfl (hb hby d11_521) tg k) ?_
              refine own_go (fun _ k => XS.iload X55.here hx rfl (hb hby d11_524) rfl k) ?_
              refine own_go (fun tg k => own_laload X55 hx hZ e55 A_xd49_54 (j := i) (own_ib3 hl49 hI hc50) (x := (q349 i.toNatClampNeg)) rfl (g := (mkF m 526 #[oR r0, oI p1, .val (.long (own_tot (own_tot (0 : Int64) La) Lb)), oS, oI ps, oR ob, oI 2, oI 1, oR xa49, oI i, .val (.int (eL (gg49 i.toNatClampNeg).toNatClampNeg))] [(.int i), (.ref xd49), (.int (eL (gg49 i.toNatClampNeg).toNatClampNeg)), (.ref b44)])) rfl rfl (hb hby d11_526) tg k) ?_
              obtain ⟨T56, h56, X56, e56, W56, A_b44_56, st56⟩ := own_stJ X55 hx hZ e55 A_b44_54 (j := (eL (gg49 i.toNatClampNeg).toNatClampNeg)) (own_place1 hn hl hm hSc hl49 hg49 hI hc50) (g := (mkF m 527 #[oR r0, oI p1, .val (.long (own_tot (own_tot (0 : Int64) La) Lb)), oS, oI ps, oR ob, oI 2, oI 1, oR xa49, oI i, .val (.int (eL (gg49 i.toNatClampNeg).toNatClampNeg))] [(.long (q349 i.toNatClampNeg)), (.int (eL (gg49 i.toNatClampNeg).toNatClampNeg)), (.ref b44)])) rfl rfl (hb hby d11_527)
              have E_r0_56 := E_r0_54.wr W56
              have F_receivers_r0_56 := F_receivers_r0_54.other W56 (Or.inl ne_r0_b44)
              have F_outboxes_r0_56 := F_outboxes_r0_54.other W56 (Or.inl ne_r0_b44)
              have F_recipients_r0_56 := F_recipients_r0_54.other W56 (Or.inl ne_r0_b44)
              have F_delivered_r0_56 := F_delivered_r0_54.other W56 (Or.inl ne_r0_b44)
              have F_senders_r0_56 := F_senders_r0_54.other W56 (Or.inl ne_r0_b44)
              have F_messages_r0_56 := F_messages_r0_54.other W56 (Or.inl ne_r0_b44)
              have F_first_r0_56 := F_first_r0_54.other W56 (Or.inl ne_r0_b44)
              have F_end_r0_56 := F_end_r0_54.other W56 (Or.inl ne_r0_b44)
              have O_ob_56 := O_ob_54.other W56 ne_ob_b44
              have B_0_56 := B_0_54.other W56 nb_b44_0
              have E_rv_56 := E_rv_54.wr W56
              have F_words_rv_56 := F_words_rv_54.other W56 (Or.inl ne_rv_b44)
              have F_held_rv_56 := F_held_rv_54.other W56 (Or.inl ne_rv_b44)
              have F_blocks_rv_56 := F_blocks_rv_54.other W56 (Or.inl ne_rv_b44)
              have F_sorted_rv_56 := F_sorted_rv_54.other W56 (Or.inl ne_rv_b44)
              have E_il_56 := E_il_54.wr W56
              have F_indices_il_56 := F_indices_il_54.other W56 (Or.inl ne_il_b44)
              have F_size_il_56 := F_size_il_54.other W56 (Or.inl ne_il_b44)
              have A_ix_56 := A_ix_54.other W56 ne_ix_b44
              have A_wd_56 := A_wd_54.other W56 ne_wd_b44
              have A_hd_56 := A_hd_54.other W56 ne_hd_b44
              have A_b14_56 := A_b14_54.other W56 ne_b14_b44
              have A_b17_56 := A_b17_54.other W56 ne_b17_b44
              have A_b41_56 := A_b41_54.other W56 ne_b41_b44
              have E_xa49_56 := E_xa49_54.wr W56
              have u56_xa49 := (Ne.symm (own_nx nb_b44_1 (i := 0) (by rw [hD49]; rfl)))
              have F_size_xa49_56 := F_size_xa49_54.other W56 (Or.inl u56_xa49)
              have F_senders_xa49_56 := F_senders_xa49_54.other W56 (Or.inl u56_xa49)
              have F_receivers_xa49_56 := F_receivers_xa49_54.other W56 (Or.inl u56_xa49)
              have F_messages_xa49_56 := F_messages_xa49_54.other W56 (Or.inl u56_xa49)
              have A_xb49_56 := A_xb49_54.other W56 (Ne.symm (own_nx nb_b44_1 (i := 1) (by rw [hD49]; rfl)))
              have A_xc49_56 := A_xc49_54.other W56 (Ne.symm (own_nx nb_b44_1 (i := 2) (by rw [hD49]; rfl)))
              have A_xd49_56 := A_xd49_54.other W56 (Ne.symm (own_nx nb_b44_1 (i := 3) (by rw [hD49]; rfl)))
              have N56 := Fr.snoc X56 N54 ge_b44
              have Z56 : n0 ≤ h56.size := Nat.le_trans Z54 (Keep.of_wr W56).1
              refine own_go (fun tg k => st56 tg k) ?_
              refine own_go (fun _ k => XS.iinc X56.here hx rfl (hb hby d11_528) rfl (l' := #[oR r0, oI p1, .val (.long (own_tot (own_tot (0 : Int64) La) Lb)), oS, oI ps, oR ob, oI 2, oI 1, oR xa49, .val (.int (i + (1 : Int32))), .val (.int (eL (gg49 i.toNatClampNeg).toNatClampNeg))]) rfl (XS.goto X56.here hx rfl (pc0 := 531) (pc' := 468) rfl (hb hby d11_531) (by decide) (by decide) k)) ?_
              show oF (T56.setTop (mkF m 468 #[oR r0, oI p1, .val (.long (own_tot (own_tot (0 : Int64) La) Lb)), oS, oI ps, oR ob, oI 2, oI 1, oR xa49, .val (.int (i + (1 : Int32))), .val (.int (eL (gg49 i.toNatClampNeg).toNatClampNeg))] []))
              exact ihP1 _ (own_I2m3 hl49 hI hc50 hkP1) ((i + (1 : Int32))) ((own_set eL (gg49 i.toNatClampNeg) ((eL (gg49 i.toNatClampNeg).toNatClampNeg) + (1 : Int32)))) ((own_set sL (eL (gg49 i.toNatClampNeg).toNatClampNeg) (q149 i.toNatClampNeg))) ((own_set mL (eL (gg49 i.toNatClampNeg).toNatClampNeg) (q349 i.toNatClampNeg))) T56 _ h56 (.val (.int (eL (gg49 i.toNatClampNeg).toNatClampNeg))) rfl (own_I3s hl49 hg49 hI hc50) (own_mono X56 (by decide) (by decide)) N56 e56 (One.val rfl) Z56 E_r0_56 F_receivers_r0_56 F_outboxes_r0_56 F_recipients_r0_56 F_delivered_r0_56 F_senders_r0_56 F_messages_r0_56 F_first_r0_56 F_end_r0_56 O_ob_56 B_0_56 E_rv_56 F_words_rv_56 F_held_rv_56 F_blocks_rv_56 F_sorted_rv_56 E_il_56 F_indices_il_56 F_size_il_56 A_ix_56 A_wd_56 A_hd_56 A_b14_56 A_b17_56 A_b41_56 A_b44_56 E_xa49_56 F_size_xa49_56 F_senders_xa49_56 F_receivers_xa49_56 F_messages_xa49_56 A_xb49_56 A_xc49_56 A_xd49_56
             ·refine own_go (fun _ k => XS.icmpYes XP1L.here hx rfl (pc0 := 475) (pc' := 534) rfl (hb hby d11_475) rfl (flt hc50).2.1 (by decide) (by decide) k) ?_
              show oF (TP1L.setTop (mkF m 534 #[oR r0, oI p1, .val (.long (own_tot (own_tot (0 : Int64) La) Lb)), oS, oI ps, oR ob, oI 2, oI 1, oR xa49, oI i, j10P1] []))
              refine own_go (fun _ k => XS.aload XP1L.here hx rfl (hb hby d11_534) rfl rfl (XS.iconst XP1L.here hx rfl (hb hby d11_536) k)) ?_
              obtain ⟨T57, h57, X57, e57, W57, st57⟩ := own_putFR XP1L hx hZ hown (oW hw 125 rfl) eP1L F_size_xa49_P1L E_xa49_P1L (oW hw 97 rfl) (oW hw 76 rfl) (ty := .int) (by decide) rfl rfl (g := (mkF m 537 #[oR r0, oI p1, .val (.long (own_tot (own_tot (0 : Int64) La) Lb)), oS, oI ps, oR ob, oI 2, oI 1, oR xa49, oI i, j10P1] [(.int 0), (.ref xa49)])) rfl rfl (hb hby d11_537)
              have E_r0_57 := E_r0_P1L.wr W57
              have u57_r0 := (own_nx nb_r0_1 (i := 0) (by rw [hD49]; rfl))
              have F_receivers_r0_57 := F_receivers_r0_P1L.other W57 (Or.inl u57_r0)
              have F_outboxes_r0_57 := F_outboxes_r0_P1L.other W57 (Or.inl u57_r0)
              have F_recipients_r0_57 := F_recipients_r0_P1L.other W57 (Or.inl u57_r0)
              have F_delivered_r0_57 := F_delivered_r0_P1L.other W57 (Or.inl u57_r0)
              have F_senders_r0_57 := F_senders_r0_P1L.other W57 (Or.inl u57_r0)
              have F_messages_r0_57 := F_messages_r0_P1L.other W57 (Or.inl u57_r0)
              have F_first_r0_57 := F_first_r0_P1L.other W57 (Or.inl u57_r0)
              have F_end_r0_57 := F_end_r0_P1L.other W57 (Or.inl u57_r0)
              have O_ob_57 := O_ob_P1L.other W57 (own_nx nb_ob_1 (i := 0) (by rw [hD49]; rfl))
              have B_0_57 := B_0_P1L.other W57 (hdk xa49 (by rw [hD49]; simp))
              have E_rv_57 := E_rv_P1L.wr W57
              have u57_rv := (own_nx nb_rv_1 (i := 0) (by rw [hD49]; rfl))
              have F_words_rv_57 := F_words_rv_P1L.other W57 (Or.inl u57_rv)
              have F_held_rv_57 := F_held_rv_P1L.other W57 (Or.inl u57_rv)
              have F_blocks_rv_57 := F_blocks_rv_P1L.other W57 (Or.inl u57_rv)
              have F_sorted_rv_57 := F_sorted_rv_P1L.other W57 (Or.inl u57_rv)
              have E_il_57 := E_il_P1L.wr W57
              have u57_il := (own_nx nb_il_1 (i := 0) (by rw [hD49]; rfl))
              have F_indices_il_57 := F_indices_il_P1L.other W57 (Or.inl u57_il)
              have F_size_il_57 := F_size_il_P1L.other W57 (Or.inl u57_il)
              have A_ix_57 := A_ix_P1L.other W57 (own_nx nb_ix_1 (i := 0) (by rw [hD49]; rfl))
              have A_wd_57 := A_wd_P1L.other W57 (own_nx nb_wd_1 (i := 0) (by rw [hD49]; rfl))
              have A_hd_57 := A_hd_P1L.other W57 (own_nx nb_hd_1 (i := 0) (by rw [hD49]; rfl))
              have A_b14_57 := A_b14_P1L.other W57 (own_nx nb_b14_1 (i := 0) (by rw [hD49]; rfl))
              have A_b17_57 := A_b17_P1L.other W57 (own_nx nb_b17_1 (i := 0) (by rw [hD49]; rfl))
              have A_b41_57 := A_b41_P1L.other W57 (own_nx nb_b41_1 (i := 0) (by rw [hD49]; rfl))
              have A_b44_57 := A_b44_P1L.other W57 (own_nx nb_b44_1 (i := 0) (by rw [hD49]; rfl))
              have E_xa49_57 := E_xa49_P1L.wr W57
              have F_senders_xa49_57 := F_senders_xa49_P1L.other W57 (Or.inr (own_sn575 hw))
              have F_receivers_xa49_57 := F_receivers_xa49_P1L.other W57 (Or.inr (own_sn576 hw))
              have F_messages_xa49_57 := F_messages_xa49_P1L.other W57 (Or.inr (own_sn577 hw))
              have A_xb49_57 := A_xb49_P1L.other W57 (Ne.symm (own_ne_arf E_xa49_P1L (oW hw 76 rfl) A_xb49_P1L))
              have A_xc49_57 := A_xc49_P1L.other W57 (Ne.symm (own_ne_arf E_xa49_P1L (oW hw 76 rfl) A_xc49_P1L))
              have A_xd49_57 := A_xd49_P1L.other W57 (Ne.symm (own_ne_arf E_xa49_P1L (oW hw 76 rfl) A_xd49_P1L))
              have N57 := Fr.snoc X57 NP1L ge_xa49
              have Z57 : n0 ≤ h57.size := Nat.le_trans ZP1L (Keep.of_wr W57).1
              have F_size_xa49_57 := F_size_xa49_P1L.same W57
              refine own_go (fun tg k => st57 tg k) ?_
              show oF (T57.setTop (mkF m 540 #[oR r0, oI p1, .val (.long (own_tot (own_tot (0 : Int64) La) Lb)), oS, oI ps, oR ob, oI 2, oI 1, oR xa49, oI i, j10P1] []))
              exact hk48 (sL) (mL) T57 _ h57 (oR xa49) (oI i) (j10P1) (own_mono X57 (by decide) (by decide)) N57 e57 (One.val rfl) (One.val rfl) hj10P1 Z57 E_r0_57 F_receivers_r0_57 F_outboxes_r0_57 F_recipients_r0_57 F_delivered_r0_57 F_senders_r0_57 F_messages_r0_57 F_first_r0_57 F_end_r0_57 O_ob_57 B_0_57 (by rw [hv49, hD49]; exact own_Box.mk (by decide) rfl (fun i hi => absurd hi (Nat.not_lt_zero _)) ge_xa49 ge_xb49 ge_xc49 ge_xd49 ne_xb49_xc49 E_xa49_57 F_size_xa49_57 F_senders_xa49_57 F_receivers_xa49_57 F_messages_xa49_57 A_xb49_57 A_xc49_57 A_xd49_57) E_rv_57 F_words_rv_57 F_held_rv_57 F_blocks_rv_57 F_sorted_rv_57 E_il_57 F_indices_il_57 F_size_il_57 A_ix_57 A_wd_57 A_hd_57 A_b14_57 (by rw [← own_I3x hl49 hI hc50]; exact A_b17_57) A_b41_57 A_b44_57
           exact loopP1 _ ((0 : Int32)) ((own_cnt eF La)) (sX) (mX) T47L _ h47L (j1047) rfl (own_I30 _ _) (own_mono X47L (by decide) (by decide)) N47L e47L hj1047 Z47L E_r0_47L F_receivers_r0_47L F_outboxes_r0_47L F_recipients_r0_47L F_delivered_r0_47L F_senders_r0_47L F_messages_r0_47L F_first_r0_47L F_end_r0_47L O_ob_47L B_0_47L E_rv_47L F_words_rv_47L F_held_rv_47L F_blocks_rv_47L F_sorted_rv_47L E_il_47L F_indices_il_47L F_size_il_47L A_ix_47L A_wd_47L A_hd_47L A_b14_47L A_b17_47L A_b41_47L A_b44_47L E_xa49_o F_size_xa49_o F_senders_xa49_o F_receivers_xa49_o F_messages_xa49_o A_xb49_o A_xc49_o A_xd49_o
         obtain ⟨hl58, ⟨hv58, hD58, hL58⟩ | ⟨xa58, xb58, xc58, xd58, q158, gg58, q358, hv58, hD58, hB58, hg58⟩⟩ := id B_0_45
         ·refine own_vr hv58 ?_
          show oF (T46.setTop (mkF m 458 #[oR r0, oI p1, .val (.long (own_tot (own_tot (0 : Int64) La) Lb)), oS, oI ps, oR ob, oI 2, oI 0, j821, j921, oU] [.null]))
          refine own_go (fun _ k => XS.astoreS X46.here hx rfl (hb hby d11_458) rfl rfl rfl rfl hj821 (XS.aload X46.here hx rfl (hb hby d11_460) rfl rfl (XS.ifnullYes X46.here hx rfl (pc0 := 462) (pc' := 540) rfl (hb hby d11_462) rfl (by decide) (by decide) k))) ?_
          show oF (T46.setTop (mkF m 540 #[oR r0, oI p1, .val (.long (own_tot (own_tot (0 : Int64) La) Lb)), oS, oI ps, oR ob, oI 2, oI 0, .val .null, j921, oU] []))
          exact hk47 ((fun _ => (0 : Int32))) ((fun _ => (0 : Int64))) T46 _ h45 (.val .null) (j921) (.unset) (own_mono X46 (by decide) (by decide)) N45 e46 (One.val rfl) hj921 One.u Z45 E_r0_45 F_receivers_r0_45 F_outboxes_r0_45 F_recipients_r0_45 F_delivered_r0_45 F_senders_r0_45 F_messages_r0_45 F_first_r0_45 F_end_r0_45 O_ob_45 (by have q := B_0_45; rw [hL58] at q; exact q) B_1_45 E_rv_45 F_words_rv_45 F_held_rv_45 F_blocks_rv_45 F_sorted_rv_45 E_il_45 F_indices_il_45 F_size_il_45 A_ix_45 A_wd_45 A_hd_45 A_b14_45 (by rw [hL58]; exact A_b17_45) A_b41_45 A_b44_45
         ·refine own_vr hv58 ?_
          show oF (T46.setTop (mkF m 458 #[oR r0, oI p1, .val (.long (own_tot (own_tot (0 : Int64) La) Lb)), oS, oI ps, oR ob, oI 2, oI 0, j821, j921, oU] [(.ref xa58)]))
          obtain ⟨⟨ge_xa58, ge_xb58, ge_xc58, ge_xd58, ne_xb58_xc58⟩, E_xa58_o, F_size_xa58_o, F_senders_xa58_o, F_receivers_xa58_o, F_messages_xa58_o, A_xb58_o, A_xc58_o, A_xd58_o⟩ := hB58
          refine own_go (fun _ k => XS.astoreS X46.here hx rfl (hb hby d11_458) rfl rfl rfl rfl hj821 (XS.aload X46.here hx rfl (hb hby d11_460) rfl rfl (XS.ifnullNo X46.here hx rfl (hb hby d11_462) rfl (XS.iconst X46.here hx rfl (hb hby d11_465) (XS.istoreS X46.here hx rfl (hb hby d11_466) rfl rfl hj921 k))))) ?_
          show oF (T46.setTop (mkF m 468 #[oR r0, oI p1, .val (.long (own_tot (own_tot (0 : Int64) La) Lb)), oS, oI ps, oR ob, oI 2, oI 0, oR xa58, oI 0, oU] []))
          have loopP0 : ∀ (kP0 : Nat) (i : Int32) (eL : Nat → Int32) (sL : Nat → Int32) (mL : Nat → Int64) (TP0L : State) (LP0L : List Loc) (hP0L : Heap) (j10P0 : Slot), kP0 = La.length - i.toNatClampNeg → own_I3 eF La i eL → Stand p l e rm11f_room s m #[(.ref r0), (.int p1)] below meth c TP0L LP0L 4 6152 → Fr n0 LP0L → TP0L.heap = hP0L → One j10P0 → n0 ≤ hP0L.size → Exa Z hP0L r0 oC0 → Fld Z hP0L r0 oC0 "receivers" "I" (.int n) → Fld Z hP0L r0 oC0 "outboxes" oC4 (.ref ob) → Fld Z hP0L r0 oC0 "recipients" oC6 (.ref rv) → Fld Z hP0L r0 oC0 "delivered" "I" (.int ((own_tot (own_tot (0 : Int64) La) Lb).toInt32)) → Fld Z hP0L r0 oC0 "senders" "[I" (.ref b41) → Fld Z hP0L r0 oC0 "messages" "[J" (.ref b44) → Fld Z hP0L r0 oC0 "first" "[I" (.ref b14) → Fld Z hP0L r0 oC0 "end" "[I" (.ref b17) → own_Oa Z hP0L ob oC2 v0 v1 → own_Box Z hP0L n0 v1 Db Lb → Exa Z hP0L rv oC1 → Fld Z hP0L rv oC1 "words" "[J" (.ref wd) → Fld Z hP0L rv oC1 "held" "[Z" (.ref hd) → Fld Z hP0L rv oC1 "blocks" oC5 (.ref il) → Fld Z hP0L rv oC1 "sorted" "Z" (.int 1) → Exa Z hP0L il oC3 → Fld Z hP0L il oC3 "indices" "[I" (.ref ix) → Fld Z hP0L il oC3 "size" "I" (.int (own_adds (own_adds (own_v0 fi) La) Lb).k_) → own_Arf Z hP0L ix .int (16 : Int32) (fun i => .int (gx23 i)) → own_Arf Z hP0L wd .long (nb * (16 : Int32)) (fun i => .long ((own_adds (own_adds (own_v0 fi) La) Lb).w_ i)) → own_Arf Z hP0L hd .boolean nb (fun i => .int ((own_adds (own_adds (own_v0 fi) La) Lb).h_ i)) → own_Arf Z hP0L b14 .int n (fun i => .int (fF i)) → own_Arf Z hP0L b17 .int n (fun i => .int (eL i)) → own_Arf Z hP0L b41 .int ((own_tot (own_tot (0 : Int64) La) Lb).toInt32) (fun i => .int (sL i)) → own_Arf Z hP0L b44 .long ((own_tot (own_tot (0 : Int64) La) Lb).toInt32) (fun i => .long (mL i)) → Exa Z hP0L xa58 oC2 → Fld Z hP0L xa58 oC2 "size" "I" (.int (Int32.ofNat La.length)) → Fld Z hP0L xa58 oC2 "senders" "[I" (.ref xb58) → Fld Z hP0L xa58 oC2 "receivers" "[I" (.ref xc58) → Fld Z hP0L xa58 oC2 "messages" "[J" (.ref xd58) → own_Arf Z hP0L xb58 .int (16 : Int32) (fun i => .int (q158 i)) → own_Arf Z hP0L xc58 .int (16 : Int32) (fun i => .int (gg58 i)) → own_Arf Z hP0L xd58 .long (16 : Int32) (fun i => .long (q358 i)) → own_Fin p.tables e below s (Qrm11f Z r0 p1 n La Lb h0 n0) rm11f_room.cells rm11f_room.slots (TP0L.setTop (mkF m 468 #[oR r0, oI p1, .val (.long (own_tot (own_tot (0 : Int64) La) Lb)), oS, oI ps, oR ob, oI 2, oI 0, oR xa58, oI i, j10P0] [])) := by
           intro kP0
           induction kP0 using Nat.strongRecOn with
           | _ kP0 ihP0 =>
            intro i eL sL mL TP0L LP0L hP0L j10P0 hkP0 hI XP0L NP0L eP0L hj10P0 ZP0L E_r0_P0L F_receivers_r0_P0L F_outboxes_r0_P0L F_recipients_r0_P0L F_delivered_r0_P0L F_senders_r0_P0L F_messages_r0_P0L F_first_r0_P0L F_end_r0_P0L O_ob_P0L B_1_P0L E_rv_P0L F_words_rv_P0L F_held_rv_P0L F_blocks_rv_P0L F_sorted_rv_P0L E_il_P0L F_indices_il_P0L F_size_il_P0L A_ix_P0L A_wd_P0L A_hd_P0L A_b14_P0L A_b17_P0L A_b41_P0L A_b44_P0L E_xa58_P0L F_size_xa58_P0L F_senders_xa58_P0L F_receivers_xa58_P0L F_messages_xa58_P0L A_xb58_P0L A_xc58_P0L A_xd58_P0L
            show oF (TP0L.setTop (mkF m 468 #[oR r0, oI p1, .val (.long (own_tot (own_tot (0 : Int64) La) Lb)), oS, oI ps, oR ob, oI 2, oI 0, oR xa58, oI i, j10P0] []))
            refine own_go (fun _ k => XS.iload XP0L.here hx rfl (hb hby d11_468) rfl (XS.aload XP0L.here hx rfl (hb hby d11_470) rfl rfl k)) ?_
            refine own_go (fun tg k => own_getFR XP0L hx hZ hown (oW hw 125 rfl) eP0L F_size_xa58_P0L (g := (mkF m 472 #[oR r0, oI p1, .val (.long (own_tot (own_tot (0 : Int64) La) Lb)), oS, oI ps, oR ob, oI 2, oI 0, oR xa58, oI i, j10P0] [(.ref xa58), (.int i)])) rfl rfl (hb hby d11_472) tg k) ?_
            by_cases hc59 : i < (Int32.ofNat La.length)
            ·refine own_go (fun _ k => XS.icmpNo XP0L.here hx rfl (hb hby d11_475) rfl (tlt hc59).2.1 (XS.aloadN XP0L.here hx rfl (hb hby d11_478) rfl rfl k)) ?_
             obtain ⟨T60, X60, e60, st60⟩ := getF XP0L hx hZ hown (host := "") (Or.inl (oW hw 69 rfl)) Via.refl eP0L F_end_r0_P0L (g := (mkF m 479 #[oR r0, oI p1, .val (.long (own_tot (own_tot (0 : Int64) La) Lb)), oS, oI ps, oR ob, oI 2, oI 0, oR xa58, oI i, j10P0] [(.ref r0)])) rfl rfl (hb hby d11_479)
             refine own_go (fun tg k => st60 tg k) ?_
             refine own_go (fun _ k => XS.aload X60.here hx rfl (hb hby d11_482) rfl rfl k) ?_
             refine own_go (fun tg k => own_getFR X60 hx hZ hown (oW hw 135 rfl) e60 F_receivers_xa58_P0L (g := (mkF m 484 #[oR r0, oI p1, .val (.long (own_tot (own_tot (0 : Int64) La) Lb)), oS, oI ps, oR ob, oI 2, oI 0, oR xa58, oI i, j10P0] [(.ref xa58), (.ref b17)])) rfl rfl (hb hby d11_484) tg k) ?_
             refine own_go (fun _ k => XS.iload X60.here hx rfl (hb hby d11_487) rfl k) ?_
             refine own_go (fun tg k => own_iaload X60 hx hZ e60 A_xc58_P0L (j := i) (own_ib3 hl58 hI hc59) (x := (gg58 i.toNatClampNeg)) rfl (g := (mkF m 489 #[oR r0, oI p1, .val (.long (own_tot (own_tot (0 : Int64) La) Lb)), oS, oI ps, oR ob, oI 2, oI 0, oR xa58, oI i, j10P0] [(.int i), (.ref xc58), (.ref b17)])) rfl rfl (hb hby d11_489) tg k) ?_
             refine own_go (fun _ k => Jvm.Free.XT.dup2 X60.here hx rfl (hb hby d11_490) rfl rfl rfl k) ?_
             refine own_go (fun tg k => own_iaload X60 hx hZ e60 A_b17_P0L (j := (gg58 i.toNatClampNeg)) (own_mem0 hm (own_gi_mem3 hl58 hg58 hI hc59)) (x := (eL (gg58 i.toNatClampNeg).toNatClampNeg)) rfl (g := (mkF m 491 #[oR r0, oI p1, .val (.long (own_tot (own_tot (0 : Int64) La) Lb)), oS, oI ps, oR ob, oI 2, oI 0, oR xa58, oI i, j10P0] [(.int (gg58 i.toNatClampNeg)), (.ref b17), (.int (gg58 i.toNatClampNeg)), (.ref b17)])) rfl rfl (hb hby d11_491) tg k) ?_
             refine own_go (fun _ k => own_dupX2 X60.here hx rfl (hb hby d11_492) rfl k) ?_
             refine own_go (fun _ k => XS.iconst X60.here hx rfl (hb hby d11_493) (XS.iadd X60.here hx rfl (hb hby d11_494) rfl k)) ?_
             obtain ⟨T61, h61, X61, e61, W61, A_b17_61, st61⟩ := own_stI X60 hx hZ e60 A_b17_P0L (j := (gg58 i.toNatClampNeg)) (own_mem0 hm (own_gi_mem3 hl58 hg58 hI hc59)) (g := (mkF m 495 #[oR r0, oI p1, .val (.long (own_tot (own_tot (0 : Int64) La) Lb)), oS, oI ps, oR ob, oI 2, oI 0, oR xa58, oI i, j10P0] [(.int ((eL (gg58 i.toNatClampNeg).toNatClampNeg) + (1 : Int32))), (.int (gg58 i.toNatClampNeg)), (.ref b17), (.int (eL (gg58 i.toNatClampNeg).toNatClampNeg))])) rfl rfl (hb hby d11_495)
             have E_r0_61 := E_r0_P0L.wr W61
             have F_receivers_r0_61 := F_receivers_r0_P0L.other W61 (Or.inl ne_r0_b17)
             have F_outboxes_r0_61 := F_outboxes_r0_P0L.other W61 (Or.inl ne_r0_b17)
             have F_recipients_r0_61 := F_recipients_r0_P0L.other W61 (Or.inl ne_r0_b17)
             have F_delivered_r0_61 := F_delivered_r0_P0L.other W61 (Or.inl ne_r0_b17)
             have F_senders_r0_61 := F_senders_r0_P0L.other W61 (Or.inl ne_r0_b17)
             have F_messages_r0_61 := F_messages_r0_P0L.other W61 (Or.inl ne_r0_b17)
             have F_first_r0_61 := F_first_r0_P0L.other W61 (Or.inl ne_r0_b17)
             have F_end_r0_61 := F_end_r0_P0L.other W61 (Or.inl ne_r0_b17)
             have O_ob_61 := O_ob_P0L.other W61 ne_ob_b17
             have B_1_61 := B_1_P0L.other W61 nb_b17_1
             have E_rv_61 := E_rv_P0L.wr W61
             have F_words_rv_61 := F_words_rv_P0L.other W61 (Or.inl ne_rv_b17)
             have F_held_rv_61 := F_held_rv_P0L.other W61 (Or.inl ne_rv_b17)
             have F_blocks_rv_61 := F_blocks_rv_P0L.other W61 (Or.inl ne_rv_b17)
             have F_sorted_rv_61 := F_sorted_rv_P0L.other W61 (Or.inl ne_rv_b17)
             have E_il_61 := E_il_P0L.wr W61
             have F_indices_il_61 := F_indices_il_P0L.other W61 (Or.inl ne_il_b17)
             have F_size_il_61 := F_size_il_P0L.other W61 (Or.inl ne_il_b17)
             have A_ix_61 := A_ix_P0L.other W61 ne_ix_b17
             have A_wd_61 := A_wd_P0L.other W61 ne_wd_b17
             have A_hd_61 := A_hd_P0L.other W61 ne_hd_b17
             have A_b14_61 := A_b14_P0L.other W61 ne_b14_b17
             have A_b41_61 := A_b41_P0L.other W61 (Ne.symm ne_b17_b41)
             have A_b44_61 := A_b44_P0L.other W61 (Ne.symm ne_b17_b44)
             have E_xa58_61 := E_xa58_P0L.wr W61
             have u61_xa58 := (Ne.symm (own_nx nb_b17_0 (i := 0) (by rw [hD58]; rfl)))
             have F_size_xa58_61 := F_size_xa58_P0L.other W61 (Or.inl u61_xa58)
             have F_senders_xa58_61 := F_senders_xa58_P0L.other W61 (Or.inl u61_xa58)
             have F_receivers_xa58_61 := F_receivers_xa58_P0L.other W61 (Or.inl u61_xa58)
             have F_messages_xa58_61 := F_messages_xa58_P0L.other W61 (Or.inl u61_xa58)
             have A_xb58_61 := A_xb58_P0L.other W61 (Ne.symm (own_nx nb_b17_0 (i := 1) (by rw [hD58]; rfl)))
             have A_xc58_61 := A_xc58_P0L.other W61 (Ne.symm (own_nx nb_b17_0 (i := 2) (by rw [hD58]; rfl)))
             have A_xd58_61 := A_xd58_P0L.other W61 (Ne.symm (own_nx nb_b17_0 (i := 3) (by rw [hD58]; rfl)))
             have N61 := Fr.snoc X61 NP0L ge_b17
             have Z61 : n0 ≤ h61.size := Nat.le_trans ZP0L (Keep.of_wr W61).1
             refine own_go (fun tg k => st61 tg k) ?_
             refine own_go (fun _ k => XS.istoreS X61.here hx rfl (hb hby d11_496) rfl rfl hj10P0 (XS.aloadN X61.here hx rfl (hb hby d11_498) rfl rfl k)) ?_
             obtain ⟨T62, X62, e62, st62⟩ := getF X61 hx hZ hown (host := "") (Or.inl (oW hw 129 rfl)) Via.refl e61 F_senders_r0_61 (g := (mkF m 499 #[oR r0, oI p1, .val (.long (own_tot (own_tot (0 : Int64) La) Lb)), oS, oI ps, oR ob, oI 2, oI 0, oR xa58, oI i, .val (.int (eL (gg58 i.toNatClampNeg).toNatClampNeg))] [(.ref r0)])) rfl rfl (hb hby d11_499)
             refine own_go (fun tg k => st62 tg k) ?_
             refine own_go (fun _ k => XS.iload X62.here hx rfl (hb hby d11_502) rfl (XS.aload X62.here hx rfl (hb hby d11_504) rfl rfl k)) ?_
             refine own_go (fun tg k => own_getFR X62 hx hZ hown (oW hw 179 rfl) e62 F_senders_xa58_61 (g := (mkF m 506 #[oR r0, oI p1, .val (.long (own_tot (own_tot (0 : Int64) La) Lb)), oS, oI ps, oR ob, oI 2, oI 0, oR xa58, oI i, .val (.int (eL (gg58 i.toNatClampNeg).toNatClampNeg))] [(.ref xa58), (.int (eL (gg58 i.toNatClampNeg).toNatClampNeg)), (.ref b41)])) rfl rfl (hb hby d11_506) tg k) ?_
             refine own_go (fun _ k => XS.iload X62.here hx rfl (hb hby d11_509) rfl k) ?_
             refine own_go (fun tg k => own_iaload X62 hx hZ e62 A_xb58_61 (j := i) (own_ib3 hl58 hI hc59) (x := (q158 i.toNatClampNeg)) rfl (g := (mkF m 511 #[oR r0, oI p1, .val (.long (own_tot (own_tot (0 : Int64) La) Lb)), oS, oI ps, oR ob, oI 2, oI 0, oR xa58, oI i, .val (.int (eL (gg58 i.toNatClampNeg).toNatClampNeg))] [(.int i), (.ref xb58), (.int (eL (gg58 i.toNatClampNeg).toNatClampNeg)), (.ref b41)])) rfl rfl (hb hby d11_511) tg k) ?_
             obtain ⟨T63, h63, X63, e63, W63, A_b41_63, st63⟩ := own_stI X62 hx hZ e62 A_b41_61 (j := (eL (gg58 i.toNatClampNeg).toNatClampNeg)) (own_place0 hn hl hm hSc hl58 hg58 hI hc59) (g := (mkF m 512 #[oR r0, oI p1, .val (.long (own_tot (own_tot (0 : Int64) La) Lb)), oS, oI ps, oR ob, oI 2, oI 0, oR xa58, oI i, .val (.int (eL (gg58 i.toNatClampNeg).toNatClampNeg))] [(.int (q158 i.toNatClampNeg)), (.int (eL (gg58 i.toNatClampNeg).toNatClampNeg)), (.ref b41)])) rfl rfl (hb hby d11_512)
             have E_r0_63 := E_r0_61.wr W63
             have F_receivers_r0_63 := F_receivers_r0_61.other W63 (Or.inl ne_r0_b41)
             have F_outboxes_r0_63 := F_outboxes_r0_61.other W63 (Or.inl ne_r0_b41)
             have F_recipients_r0_63 := F_recipients_r0_61.other W63 (Or.inl ne_r0_b41)
             have F_delivered_r0_63 := F_delivered_r0_61.other W63 (Or.inl ne_r0_b41)
             have F_senders_r0_63 := F_senders_r0_61.other W63 (Or.inl ne_r0_b41)
             have F_messages_r0_63 := F_messages_r0_61.other W63 (Or.inl ne_r0_b41)
             have F_first_r0_63 := F_first_r0_61.other W63 (Or.inl ne_r0_b41)
             have F_end_r0_63 := F_end_r0_61.other W63 (Or.inl ne_r0_b41)
             have O_ob_63 := O_ob_61.other W63 ne_ob_b41
             have B_1_63 := B_1_61.other W63 nb_b41_1
             have E_rv_63 := E_rv_61.wr W63
             have F_words_rv_63 := F_words_rv_61.other W63 (Or.inl ne_rv_b41)
             have F_held_rv_63 := F_held_rv_61.other W63 (Or.inl ne_rv_b41)
             have F_blocks_rv_63 := F_blocks_rv_61.other W63 (Or.inl ne_rv_b41)
             have F_sorted_rv_63 := F_sorted_rv_61.other W63 (Or.inl ne_rv_b41)
             have E_il_63 := E_il_61.wr W63
             have F_indices_il_63 := F_indices_il_61.other W63 (Or.inl ne_il_b41)
             have F_size_il_63 := F_size_il_61.other W63 (Or.inl ne_il_b41)
             have A_ix_63 := A_ix_61.other W63 ne_ix_b41
             have A_wd_63 := A_wd_61.other W63 ne_wd_b41
             have A_hd_63 := A_hd_61.other W63 ne_hd_b41
             have A_b14_63 := A_b14_61.other W63 ne_b14_b41
             have A_b17_63 := A_b17_61.other W63 ne_b17_b41
             have A_b44_63 := A_b44_61.other W63 (Ne.symm ne_b41_b44)
             have E_xa58_63 := E_xa58_61.wr W63
             have u63_xa58 := (Ne.symm (own_nx nb_b41_0 (i := 0) (by rw [hD58]; rfl)))
             have F_size_xa58_63 := F_size_xa58_61.other W63 (Or.inl u63_xa58)
             have F_senders_xa58_63 := F_senders_xa58_61.other W63 (Or.inl u63_xa58)
             have F_receivers_xa58_63 := F_receivers_xa58_61.other W63 (Or.inl u63_xa58)
             have F_messages_xa58_63 := F_messages_xa58_61.other W63 (Or.inl u63_xa58)
             have A_xb58_63 := A_xb58_61.other W63 (Ne.symm (own_nx nb_b41_0 (i := 1) (by rw [hD58]; rfl)))
             have A_xc58_63 := A_xc58_61.other W63 (Ne.symm (own_nx nb_b41_0 (i := 2) (by rw [hD58]; rfl)))
             have A_xd58_63 := A_xd58_61.other W63 (Ne.symm (own_nx nb_b41_0 (i := 3) (by rw [hD58]; rfl)))
             have N63 := Fr.snoc X63 N61 ge_b41
             have Z63 : n0 ≤ h63.size := Nat.le_trans Z61 (Keep.of_wr W63).1
             refine own_go (fun tg k => st63 tg k) ?_
             refine own_go (fun _ k => XS.aloadN X63.here hx rfl (hb hby d11_513) rfl rfl k) ?_
             obtain ⟨T64, X64, e64, st64⟩ := getF X63 hx hZ hown (host := "") (Or.inl (oW hw 131 rfl)) Via.refl e63 F_messages_r0_63 (g := (mkF m 514 #[oR r0, oI p1, .val (.long (own_tot (own_tot (0 : Int64) La) Lb)), oS, oI ps, oR ob, oI 2, oI 0, oR xa58, oI i, .val (.int (eL (gg58 i.toNatClampNeg).toNatClampNeg))] [(.ref r0)])) rfl rfl (hb hby d11_514)
             refine own_go (fun tg k => st64 tg k) ?_
             refine own_go (fun _ k => XS.iload X64.here hx rfl (hb hby d11_517) rfl (XS.aload X64.here hx rfl (hb hby d11_519) rfl rfl k)) ?_
             refine own_go (fun tg k => own_getFR X64 hx hZ hown (oW hw 180 rfl) e64 F_messages_xa58_63 (g := (mkF m 521 #[oR r0, oI p1, .val (.long (own_tot (own_tot (0 : Int64) La) Lb)), oS, oI ps, oR ob, oI 2, oI 0, oR xa58, oI i, .val (.int (eL (gg58 i.toNatClampNeg).toNatClampNeg))] [(.ref xa58), (.int (eL (gg58 i.toNatClampNeg).toNatClampNeg)), (.ref b44)])) rfl rfl (hb hby d11_521) tg k) ?_
             refine own_go (fun _ k => XS.iload X64.here hx rfl (hb hby d11_524) rfl k) ?_
             refine own_go (fun tg k => own_laload X64 hx hZ e64 A_xd58_63 (j := i) (own_ib3 hl58 hI hc59) (x := (q358 i.toNatClampNeg)) rfl (g := (mkF m 526 #[oR r0, oI p1, .val (.long (own_tot (own_tot (0 : Int64) La) Lb)), oS, oI ps, oR ob, oI 2, oI 0, oR xa58, oI i, .val (.int (eL (gg58 i.toNatClampNeg).toNatClampNeg))] [(.int i), (.ref xd58), (.int (eL (gg58 i.toNatClampNeg).toNatClampNeg)), (.ref b44)])) rfl rfl (hb hby d11_526) tg k) ?_
             obtain ⟨T65, h65, X65, e65, W65, A_b44_65, st65⟩ := own_stJ X64 hx hZ e64 A_b44_63 (j := (eL (gg58 i.toNatClampNeg).toNatClampNeg)) (own_place0 hn hl hm hSc hl58 hg58 hI hc59) (g := (mkF m 527 #[oR r0, oI p1, .val (.long (own_tot (own_tot (0 : Int64) La) Lb)), oS, oI ps, oR ob, oI 2, oI 0, oR xa58, oI i, .val (.int (eL (gg58 i.toNatClampNeg).toNatClampNeg))] [(.long (q358 i.toNatClampNeg)), (.int (eL (gg58 i.toNatClampNeg).toNatClampNeg)), (.ref b44)])) rfl rfl (hb hby d11_527)
             have E_r0_65 := E_r0_63.wr W65
             have F_receivers_r0_65 := F_receivers_r0_63.other W65 (Or.inl ne_r0_b44)
             have F_outboxes_r0_65 := F_outboxes_r0_63.other W65 (Or.inl ne_r0_b44)
             have F_recipients_r0_65 := F_recipients_r0_63.other W65 (Or.inl ne_r0_b44)
             have F_delivered_r0_65 := F_delivered_r0_63.other W65 (Or.inl ne_r0_b44)
             have F_senders_r0_65 := F_senders_r0_63.other W65 (Or.inl ne_r0_b44)
             have F_messages_r0_65 := F_messages_r0_63.other W65 (Or.inl ne_r0_b44)
             have F_first_r0_65 := F_first_r0_63.other W65 (Or.inl ne_r0_b44)
             have F_end_r0_65 := F_end_r0_63.other W65 (Or.inl ne_r0_b44)
             have O_ob_65 := O_ob_63.other W65 ne_ob_b44
             have B_1_65 := B_1_63.other W65 nb_b44_1
             have E_rv_65 := E_rv_63.wr W65
             have F_words_rv_65 := F_words_rv_63.other W65 (Or.inl ne_rv_b44)
             have F_held_rv_65 := F_held_rv_63.other W65 (Or.inl ne_rv_b44)
             have F_blocks_rv_65 := F_blocks_rv_63.other W65 (Or.inl ne_rv_b44)
             have F_sorted_rv_65 := F_sorted_rv_63.other W65 (Or.inl ne_rv_b44)
             have E_il_65 := E_il_63.wr W65
             have F_indices_il_65 := F_indices_il_63.other W65 (Or.inl ne_il_b44)
             have F_size_il_65 := F_size_il_63.other W65 (Or.inl ne_il_b44)
             have A_ix_65 := A_ix_63.other W65 ne_ix_b44
             have A_wd_65 := A_wd_63.other W65 ne_wd_b44
             have A_hd_65 := A_hd_63.other W65 ne_hd_b44
             have A_b14_65 := A_b14_63.other W65 ne_b14_b44
             have A_b17_65 := A_b17_63.other W65 ne_b17_b44
             have A_b41_65 := A_b41_63.other W65 ne_b41_b44
             have E_xa58_65 := E_xa58_63.wr W65
             have u65_xa58 := (Ne.symm (own_nx nb_b44_0 (i := 0) (by rw [hD58]; rfl)))
             have F_size_xa58_65 := F_size_xa58_63.other W65 (Or.inl u65_xa58)
             have F_senders_xa58_65 := F_senders_xa58_63.other W65 (Or.inl u65_xa58)
             have F_receivers_xa58_65 := F_receivers_xa58_63.other W65 (Or.inl u65_xa58)
             have F_messages_xa58_65 := F_messages_xa58_63.other W65 (Or.inl u65_xa58)
             have A_xb58_65 := A_xb58_63.other W65 (Ne.symm (own_nx nb_b44_0 (i := 1) (by rw [hD58]; rfl)))
             have A_xc58_65 := A_xc58_63.other W65 (Ne.symm (own_nx nb_b44_0 (i := 2) (by rw [hD58]; rfl)))
             have A_xd58_65 := A_xd58_63.other W65 (Ne.symm (own_nx nb_b44_0 (i := 3) (by rw [hD58]; rfl)))
             have N65 := Fr.snoc X65 N63 ge_b44
             have Z65 : n0 ≤ h65.size := Nat.le_trans Z63 (Keep.of_wr W65).1
             refine own_go (fun tg k => st65 tg k) ?_
             refine own_go (fun _ k => XS.iinc X65.here hx rfl (hb hby d11_528) rfl (l' := #[oR r0, oI p1, .val (.long (own_tot (own_tot (0 : Int64) La) Lb)), oS, oI ps, oR ob, oI 2, oI 0, oR xa58, .val (.int (i + (1 : Int32))), .val (.int (eL (gg58 i.toNatClampNeg).toNatClampNeg))]) rfl (XS.goto X65.here hx rfl (pc0 := 531) (pc' := 468) rfl (hb hby d11_531) (by decide) (by decide) k)) ?_
             show oF (T65.setTop (mkF m 468 #[oR r0, oI p1, .val (.long (own_tot (own_tot (0 : Int64) La) Lb)), oS, oI ps, oR ob, oI 2, oI 0, oR xa58, .val (.int (i + (1 : Int32))), .val (.int (eL (gg58 i.toNatClampNeg).toNatClampNeg))] []))
             exact ihP0 _ (own_I2m3 hl58 hI hc59 hkP0) ((i + (1 : Int32))) ((own_set eL (gg58 i.toNatClampNeg) ((eL (gg58 i.toNatClampNeg).toNatClampNeg) + (1 : Int32)))) ((own_set sL (eL (gg58 i.toNatClampNeg).toNatClampNeg) (q158 i.toNatClampNeg))) ((own_set mL (eL (gg58 i.toNatClampNeg).toNatClampNeg) (q358 i.toNatClampNeg))) T65 _ h65 (.val (.int (eL (gg58 i.toNatClampNeg).toNatClampNeg))) rfl (own_I3s hl58 hg58 hI hc59) (own_mono X65 (by decide) (by decide)) N65 e65 (One.val rfl) Z65 E_r0_65 F_receivers_r0_65 F_outboxes_r0_65 F_recipients_r0_65 F_delivered_r0_65 F_senders_r0_65 F_messages_r0_65 F_first_r0_65 F_end_r0_65 O_ob_65 B_1_65 E_rv_65 F_words_rv_65 F_held_rv_65 F_blocks_rv_65 F_sorted_rv_65 E_il_65 F_indices_il_65 F_size_il_65 A_ix_65 A_wd_65 A_hd_65 A_b14_65 A_b17_65 A_b41_65 A_b44_65 E_xa58_65 F_size_xa58_65 F_senders_xa58_65 F_receivers_xa58_65 F_messages_xa58_65 A_xb58_65 A_xc58_65 A_xd58_65
            ·refine own_go (fun _ k => XS.icmpYes XP0L.here hx rfl (pc0 := 475) (pc' := 534) rfl (hb hby d11_475) rfl (flt hc59).2.1 (by decide) (by decide) k) ?_
             show oF (TP0L.setTop (mkF m 534 #[oR r0, oI p1, .val (.long (own_tot (own_tot (0 : Int64) La) Lb)), oS, oI ps, oR ob, oI 2, oI 0, oR xa58, oI i, j10P0] []))
             refine own_go (fun _ k => XS.aload XP0L.here hx rfl (hb hby d11_534) rfl rfl (XS.iconst XP0L.here hx rfl (hb hby d11_536) k)) ?_
             obtain ⟨T66, h66, X66, e66, W66, st66⟩ := own_putFR XP0L hx hZ hown (oW hw 125 rfl) eP0L F_size_xa58_P0L E_xa58_P0L (oW hw 97 rfl) (oW hw 76 rfl) (ty := .int) (by decide) rfl rfl (g := (mkF m 537 #[oR r0, oI p1, .val (.long (own_tot (own_tot (0 : Int64) La) Lb)), oS, oI ps, oR ob, oI 2, oI 0, oR xa58, oI i, j10P0] [(.int 0), (.ref xa58)])) rfl rfl (hb hby d11_537)
             have E_r0_66 := E_r0_P0L.wr W66
             have u66_r0 := (own_nx nb_r0_0 (i := 0) (by rw [hD58]; rfl))
             have F_receivers_r0_66 := F_receivers_r0_P0L.other W66 (Or.inl u66_r0)
             have F_outboxes_r0_66 := F_outboxes_r0_P0L.other W66 (Or.inl u66_r0)
             have F_recipients_r0_66 := F_recipients_r0_P0L.other W66 (Or.inl u66_r0)
             have F_delivered_r0_66 := F_delivered_r0_P0L.other W66 (Or.inl u66_r0)
             have F_senders_r0_66 := F_senders_r0_P0L.other W66 (Or.inl u66_r0)
             have F_messages_r0_66 := F_messages_r0_P0L.other W66 (Or.inl u66_r0)
             have F_first_r0_66 := F_first_r0_P0L.other W66 (Or.inl u66_r0)
             have F_end_r0_66 := F_end_r0_P0L.other W66 (Or.inl u66_r0)
             have O_ob_66 := O_ob_P0L.other W66 (own_nx nb_ob_0 (i := 0) (by rw [hD58]; rfl))
             have B_1_66 := B_1_P0L.other W66 (hdj xa58 (by rw [hD58]; simp))
             have E_rv_66 := E_rv_P0L.wr W66
             have u66_rv := (own_nx nb_rv_0 (i := 0) (by rw [hD58]; rfl))
             have F_words_rv_66 := F_words_rv_P0L.other W66 (Or.inl u66_rv)
             have F_held_rv_66 := F_held_rv_P0L.other W66 (Or.inl u66_rv)
             have F_blocks_rv_66 := F_blocks_rv_P0L.other W66 (Or.inl u66_rv)
             have F_sorted_rv_66 := F_sorted_rv_P0L.other W66 (Or.inl u66_rv)
             have E_il_66 := E_il_P0L.wr W66
             have u66_il := (own_nx nb_il_0 (i := 0) (by rw [hD58]; rfl))
             have F_indices_il_66 := F_indices_il_P0L.other W66 (Or.inl u66_il)
             have F_size_il_66 := F_size_il_P0L.other W66 (Or.inl u66_il)
             have A_ix_66 := A_ix_P0L.other W66 (own_nx nb_ix_0 (i := 0) (by rw [hD58]; rfl))
             have A_wd_66 := A_wd_P0L.other W66 (own_nx nb_wd_0 (i := 0) (by rw [hD58]; rfl))
             have A_hd_66 := A_hd_P0L.other W66 (own_nx nb_hd_0 (i := 0) (by rw [hD58]; rfl))
             have A_b14_66 := A_b14_P0L.other W66 (own_nx nb_b14_0 (i := 0) (by rw [hD58]; rfl))
             have A_b17_66 := A_b17_P0L.other W66 (own_nx nb_b17_0 (i := 0) (by rw [hD58]; rfl))
             have A_b41_66 := A_b41_P0L.other W66 (own_nx nb_b41_0 (i := 0) (by rw [hD58]; rfl))
             have A_b44_66 := A_b44_P0L.other W66 (own_nx nb_b44_0 (i := 0) (by rw [hD58]; rfl))
             have E_xa58_66 := E_xa58_P0L.wr W66
             have F_senders_xa58_66 := F_senders_xa58_P0L.other W66 (Or.inr (own_sn575 hw))
             have F_receivers_xa58_66 := F_receivers_xa58_P0L.other W66 (Or.inr (own_sn576 hw))
             have F_messages_xa58_66 := F_messages_xa58_P0L.other W66 (Or.inr (own_sn577 hw))
             have A_xb58_66 := A_xb58_P0L.other W66 (Ne.symm (own_ne_arf E_xa58_P0L (oW hw 76 rfl) A_xb58_P0L))
             have A_xc58_66 := A_xc58_P0L.other W66 (Ne.symm (own_ne_arf E_xa58_P0L (oW hw 76 rfl) A_xc58_P0L))
             have A_xd58_66 := A_xd58_P0L.other W66 (Ne.symm (own_ne_arf E_xa58_P0L (oW hw 76 rfl) A_xd58_P0L))
             have N66 := Fr.snoc X66 NP0L ge_xa58
             have Z66 : n0 ≤ h66.size := Nat.le_trans ZP0L (Keep.of_wr W66).1
             have F_size_xa58_66 := F_size_xa58_P0L.same W66
             refine own_go (fun tg k => st66 tg k) ?_
             show oF (T66.setTop (mkF m 540 #[oR r0, oI p1, .val (.long (own_tot (own_tot (0 : Int64) La) Lb)), oS, oI ps, oR ob, oI 2, oI 0, oR xa58, oI i, j10P0] []))
             exact hk47 (sL) (mL) T66 _ h66 (oR xa58) (oI i) (j10P0) (own_mono X66 (by decide) (by decide)) N66 e66 (One.val rfl) (One.val rfl) hj10P0 Z66 E_r0_66 F_receivers_r0_66 F_outboxes_r0_66 F_recipients_r0_66 F_delivered_r0_66 F_senders_r0_66 F_messages_r0_66 F_first_r0_66 F_end_r0_66 O_ob_66 (by rw [hv58, hD58]; exact own_Box.mk (by decide) rfl (fun i hi => absurd hi (Nat.not_lt_zero _)) ge_xa58 ge_xb58 ge_xc58 ge_xd58 ne_xb58_xc58 E_xa58_66 F_size_xa58_66 F_senders_xa58_66 F_receivers_xa58_66 F_messages_xa58_66 A_xb58_66 A_xc58_66 A_xd58_66) B_1_66 E_rv_66 F_words_rv_66 F_held_rv_66 F_blocks_rv_66 F_sorted_rv_66 E_il_66 F_indices_il_66 F_size_il_66 A_ix_66 A_wd_66 A_hd_66 A_b14_66 (by rw [← own_I3x hl58 hI hc59]; exact A_b17_66) A_b41_66 A_b44_66
          exact loopP0 _ ((0 : Int32)) (eF) ((fun _ => (0 : Int32))) ((fun _ => (0 : Int64))) T46 _ h45 (.unset) rfl (own_I30 _ _) (own_mono X46 (by decide) (by decide)) N45 e46 One.u Z45 E_r0_45 F_receivers_r0_45 F_outboxes_r0_45 F_recipients_r0_45 F_delivered_r0_45 F_senders_r0_45 F_messages_r0_45 F_first_r0_45 F_end_r0_45 O_ob_45 B_1_45 E_rv_45 F_words_rv_45 F_held_rv_45 F_blocks_rv_45 F_sorted_rv_45 E_il_45 F_indices_il_45 F_size_il_45 A_ix_45 A_wd_45 A_hd_45 A_b14_45 A_b17_45 A_b41_45 A_b44_45 E_xa58_o F_size_xa58_o F_senders_xa58_o F_receivers_xa58_o F_messages_xa58_o A_xb58_o A_xc58_o A_xd58_o
      exact loopO _ ((0 : Int32)) ((0 : Int32)) ((fun _ => (0 : Int32))) ((own_cnt (own_cnt (fun _ => (0 : Int32)) La) Lb)) T23 _ T23.heap (oI 2) (j721) rfl (own_SO0 Pq23_9 (own_Sc0 La Lb n)) (own_mono X23 (by decide) (by decide)) N23 rfl (One.val rfl) hj721 Z23 E_r0_23 F_receivers_r0_23 F_outboxes_r0_23 F_recipients_r0_23 F_delivered_r0_23 F_senders_r0_23 F_messages_r0_23 F_first_r0_23 F_end_r0_23 O_ob_23 B_0_23 B_1_23 E_rv_23 F_words_rv_23 F_held_rv_23 F_blocks_rv_23 F_sorted_rv_23 E_il_23 F_indices_il_23 F_size_il_23 A_ix_23 A_wd_23 A_hd_23 A_b14_23 A_b17_23
     obtain ⟨hl67, ⟨hv67, hD67, hL67⟩ | ⟨xa67, xb67, xc67, xd67, q167, gg67, q367, hv67, hD67, hB67, hg67⟩⟩ := id B_1_20L
     ·refine own_vr hv67 ?_
      show oF (T20L.setTop (mkF m 233 #[oR r0, oI p1, .val (.long (own_tot (own_tot (0 : Int64) La) Lb)), oS, oR ob, oI 2, oI 1, j720, j820, j920, oU] [.null]))
      refine own_go (fun _ k => XS.astoreS X20L.here hx rfl (hb hby d11_233) rfl rfl rfl rfl hj720 (XS.aload X20L.here hx rfl (hb hby d11_235) rfl rfl (XS.ifnullYes X20L.here hx rfl (pc0 := 237) (pc' := 289) rfl (hb hby d11_237) rfl (by decide) (by decide) k))) ?_
      show oF (T20L.setTop (mkF m 289 #[oR r0, oI p1, .val (.long (own_tot (own_tot (0 : Int64) La) Lb)), oS, oR ob, oI 2, oI 1, .val .null, j820, j920, oU] []))
      exact hk21  T20L _ h20L (.val .null) (j820) (j920) (own_mono X20L (by decide) (by decide)) N20L e20L (One.val rfl) hj820 hj920 Z20L E_r0_20L F_receivers_r0_20L F_outboxes_r0_20L F_recipients_r0_20L F_delivered_r0_20L F_senders_r0_20L F_messages_r0_20L F_first_r0_20L F_end_r0_20L O_ob_20L B_0_20L B_1_20L E_rv_20L F_words_rv_20L F_held_rv_20L F_blocks_rv_20L (by rw [hL67]; exact F_sorted_rv_20L) E_il_20L F_indices_il_20L (by rw [hL67]; exact F_size_il_20L) (by rw [hL67]; exact A_ix_20L) (by rw [hL67]; exact A_wd_20L) (by rw [hL67]; exact A_hd_20L) A_b14_20L (by rw [hL67]; exact A_b17_20L)
     ·refine own_vr hv67 ?_
      show oF (T20L.setTop (mkF m 233 #[oR r0, oI p1, .val (.long (own_tot (own_tot (0 : Int64) La) Lb)), oS, oR ob, oI 2, oI 1, j720, j820, j920, oU] [(.ref xa67)]))
      obtain ⟨⟨ge_xa67, ge_xb67, ge_xc67, ge_xd67, ne_xb67_xc67⟩, E_xa67_o, F_size_xa67_o, F_senders_xa67_o, F_receivers_xa67_o, F_messages_xa67_o, A_xb67_o, A_xc67_o, A_xd67_o⟩ := hB67
      refine own_go (fun _ k => XS.astoreS X20L.here hx rfl (hb hby d11_233) rfl rfl rfl rfl hj720 (XS.aload X20L.here hx rfl (hb hby d11_235) rfl rfl (XS.ifnullNo X20L.here hx rfl (hb hby d11_237) rfl (XS.iconst X20L.here hx rfl (hb hby d11_240) (XS.istoreS X20L.here hx rfl (hb hby d11_241) rfl rfl hj820 k))))) ?_
      show oF (T20L.setTop (mkF m 243 #[oR r0, oI p1, .val (.long (own_tot (own_tot (0 : Int64) La) Lb)), oS, oR ob, oI 2, oI 1, oR xa67, oI 0, j920, oU] []))
      have loopA1 : ∀ (kA1 : Nat) (i : Int32) (eL : Nat → Int32) (VL : own_V) (TA1L : State) (LA1L : List Loc) (hA1L : Heap) (j9A1 : Slot), kA1 = Lb.length - i.toNatClampNeg → own_I2 (own_cnt (fun _ => (0 : Int32)) La) (own_adds (own_v0 fi) La) Lb i eL VL → Stand p l e rm11f_room s m #[(.ref r0), (.int p1)] below meth c TA1L LA1L 2 6144 → Fr n0 LA1L → TA1L.heap = hA1L → One j9A1 → n0 ≤ hA1L.size → Exa Z hA1L r0 oC0 → Fld Z hA1L r0 oC0 "receivers" "I" (.int n) → Fld Z hA1L r0 oC0 "outboxes" oC4 (.ref ob) → Fld Z hA1L r0 oC0 "recipients" oC6 (.ref rv) → Fld Z hA1L r0 oC0 "delivered" "I" (.int ((own_tot (own_tot (0 : Int64) La) Lb).toInt32)) → Fld Z hA1L r0 oC0 "senders" "[I" .null → Fld Z hA1L r0 oC0 "messages" "[J" .null → Fld Z hA1L r0 oC0 "first" "[I" (.ref b14) → Fld Z hA1L r0 oC0 "end" "[I" (.ref b17) → own_Oa Z hA1L ob oC2 v0 v1 → own_Box Z hA1L n0 v0 Da La → own_Box Z hA1L n0 v1 Db Lb → Exa Z hA1L rv oC1 → Fld Z hA1L rv oC1 "words" "[J" (.ref wd) → Fld Z hA1L rv oC1 "held" "[Z" (.ref hd) → Fld Z hA1L rv oC1 "blocks" oC5 (.ref il) → Fld Z hA1L rv oC1 "sorted" "Z" (.int VL.s_) → Exa Z hA1L il oC3 → Fld Z hA1L il oC3 "indices" "[I" (.ref ix) → Fld Z hA1L il oC3 "size" "I" (.int VL.k_) → own_Arf Z hA1L ix .int (16 : Int32) (fun i => .int (VL.f_ i)) → own_Arf Z hA1L wd .long (nb * (16 : Int32)) (fun i => .long (VL.w_ i)) → own_Arf Z hA1L hd .boolean nb (fun i => .int (VL.h_ i)) → own_Arf Z hA1L b14 .int n (fun i => .int ((fun _ => (0 : Int32)) i)) → own_Arf Z hA1L b17 .int n (fun i => .int (eL i)) → Exa Z hA1L xa67 oC2 → Fld Z hA1L xa67 oC2 "size" "I" (.int (Int32.ofNat Lb.length)) → Fld Z hA1L xa67 oC2 "senders" "[I" (.ref xb67) → Fld Z hA1L xa67 oC2 "receivers" "[I" (.ref xc67) → Fld Z hA1L xa67 oC2 "messages" "[J" (.ref xd67) → own_Arf Z hA1L xb67 .int (16 : Int32) (fun i => .int (q167 i)) → own_Arf Z hA1L xc67 .int (16 : Int32) (fun i => .int (gg67 i)) → own_Arf Z hA1L xd67 .long (16 : Int32) (fun i => .long (q367 i)) → own_Fin p.tables e below s (Qrm11f Z r0 p1 n La Lb h0 n0) rm11f_room.cells rm11f_room.slots (TA1L.setTop (mkF m 243 #[oR r0, oI p1, .val (.long (own_tot (own_tot (0 : Int64) La) Lb)), oS, oR ob, oI 2, oI 1, oR xa67, oI i, j9A1, oU] [])) := by
       intro kA1
       induction kA1 using Nat.strongRecOn with
       | _ kA1 ihA1 =>
        intro i eL VL TA1L LA1L hA1L j9A1 hkA1 hI XA1L NA1L eA1L hj9A1 ZA1L E_r0_A1L F_receivers_r0_A1L F_outboxes_r0_A1L F_recipients_r0_A1L F_delivered_r0_A1L F_senders_r0_A1L F_messages_r0_A1L F_first_r0_A1L F_end_r0_A1L O_ob_A1L B_0_A1L B_1_A1L E_rv_A1L F_words_rv_A1L F_held_rv_A1L F_blocks_rv_A1L F_sorted_rv_A1L E_il_A1L F_indices_il_A1L F_size_il_A1L A_ix_A1L A_wd_A1L A_hd_A1L A_b14_A1L A_b17_A1L E_xa67_A1L F_size_xa67_A1L F_senders_xa67_A1L F_receivers_xa67_A1L F_messages_xa67_A1L A_xb67_A1L A_xc67_A1L A_xd67_A1L
        show oF (TA1L.setTop (mkF m 243 #[oR r0, oI p1, .val (.long (own_tot (own_tot (0 : Int64) La) Lb)), oS, oR ob, oI 2, oI 1, oR xa67, oI i, j9A1, oU] []))
        refine own_go (fun _ k => XS.iload XA1L.here hx rfl (hb hby d11_243) rfl (XS.aload XA1L.here hx rfl (hb hby d11_245) rfl rfl k)) ?_
        refine own_go (fun tg k => own_getFR XA1L hx hZ hown (oW hw 125 rfl) eA1L F_size_xa67_A1L (g := (mkF m 247 #[oR r0, oI p1, .val (.long (own_tot (own_tot (0 : Int64) La) Lb)), oS, oR ob, oI 2, oI 1, oR xa67, oI i, j9A1, oU] [(.ref xa67), (.int i)])) rfl rfl (hb hby d11_247) tg k) ?_
        by_cases hc68 : i < (Int32.ofNat Lb.length)
        ·refine own_go (fun _ k => XS.icmpNo XA1L.here hx rfl (hb hby d11_250) rfl (tlt hc68).2.1 (XS.aload XA1L.here hx rfl (hb hby d11_253) rfl rfl k)) ?_
         refine own_go (fun tg k => own_getFR XA1L hx hZ hown (oW hw 135 rfl) eA1L F_receivers_xa67_A1L (g := (mkF m 255 #[oR r0, oI p1, .val (.long (own_tot (own_tot (0 : Int64) La) Lb)), oS, oR ob, oI 2, oI 1, oR xa67, oI i, j9A1, oU] [(.ref xa67)])) rfl rfl (hb hby d11_255) tg k) ?_
         refine own_go (fun _ k => XS.iload XA1L.here hx rfl (hb hby d11_258) rfl k) ?_
         refine own_go (fun tg k => own_iaload XA1L hx hZ eA1L A_xc67_A1L (j := i) (own_ib hl67 hI hc68) (x := (gg67 i.toNatClampNeg)) rfl (g := (mkF m 260 #[oR r0, oI p1, .val (.long (own_tot (own_tot (0 : Int64) La) Lb)), oS, oR ob, oI 2, oI 1, oR xa67, oI i, j9A1, oU] [(.int i), (.ref xc67)])) rfl rfl (hb hby d11_260) tg k) ?_
         refine own_go (fun _ k => XS.istoreS XA1L.here hx rfl (hb hby d11_261) rfl rfl hj9A1 (XS.aloadN XA1L.here hx rfl (hb hby d11_263) rfl rfl k)) ?_
         obtain ⟨T69, X69, e69, st69⟩ := getF XA1L hx hZ hown (host := "") (Or.inl (oW hw 69 rfl)) Via.refl eA1L F_end_r0_A1L (g := (mkF m 264 #[oR r0, oI p1, .val (.long (own_tot (own_tot (0 : Int64) La) Lb)), oS, oR ob, oI 2, oI 1, oR xa67, oI i, .val (.int (gg67 i.toNatClampNeg)), oU] [(.ref r0)])) rfl rfl (hb hby d11_264)
         refine own_go (fun tg k => st69 tg k) ?_
         refine own_go (fun _ k => XS.iload X69.here hx rfl (hb hby d11_267) rfl k) ?_
         refine own_go (fun _ k => Jvm.Free.XT.dup2 X69.here hx rfl (hb hby d11_269) rfl rfl rfl k) ?_
         refine own_go (fun tg k => own_iaload X69 hx hZ e69 A_b17_A1L (j := (gg67 i.toNatClampNeg)) (own_mem1 hm (own_gi_mem hl67 hg67 hI hc68)) (x := (eL (gg67 i.toNatClampNeg).toNatClampNeg)) rfl (g := (mkF m 270 #[oR r0, oI p1, .val (.long (own_tot (own_tot (0 : Int64) La) Lb)), oS, oR ob, oI 2, oI 1, oR xa67, oI i, .val (.int (gg67 i.toNatClampNeg)), oU] [(.int (gg67 i.toNatClampNeg)), (.ref b17), (.int (gg67 i.toNatClampNeg)), (.ref b17)])) rfl rfl (hb hby d11_270) tg k) ?_
         refine own_go (fun _ k => XS.iconst X69.here hx rfl (hb hby d11_271) (XS.iadd X69.here hx rfl (hb hby d11_272) rfl k)) ?_
         obtain ⟨T70, h70, X70, e70, W70, A_b17_70, st70⟩ := own_stI X69 hx hZ e69 A_b17_A1L (j := (gg67 i.toNatClampNeg)) (own_mem1 hm (own_gi_mem hl67 hg67 hI hc68)) (g := (mkF m 273 #[oR r0, oI p1, .val (.long (own_tot (own_tot (0 : Int64) La) Lb)), oS, oR ob, oI 2, oI 1, oR xa67, oI i, .val (.int (gg67 i.toNatClampNeg)), oU] [(.int ((eL (gg67 i.toNatClampNeg).toNatClampNeg) + (1 : Int32))), (.int (gg67 i.toNatClampNeg)), (.ref b17)])) rfl rfl (hb hby d11_273)
         have E_r0_70 := E_r0_A1L.wr W70
         have F_receivers_r0_70 := F_receivers_r0_A1L.other W70 (Or.inl ne_r0_b17)
         have F_outboxes_r0_70 := F_outboxes_r0_A1L.other W70 (Or.inl ne_r0_b17)
         have F_recipients_r0_70 := F_recipients_r0_A1L.other W70 (Or.inl ne_r0_b17)
         have F_delivered_r0_70 := F_delivered_r0_A1L.other W70 (Or.inl ne_r0_b17)
         have F_senders_r0_70 := F_senders_r0_A1L.other W70 (Or.inl ne_r0_b17)
         have F_messages_r0_70 := F_messages_r0_A1L.other W70 (Or.inl ne_r0_b17)
         have F_first_r0_70 := F_first_r0_A1L.other W70 (Or.inl ne_r0_b17)
         have F_end_r0_70 := F_end_r0_A1L.other W70 (Or.inl ne_r0_b17)
         have O_ob_70 := O_ob_A1L.other W70 ne_ob_b17
         have B_0_70 := B_0_A1L.other W70 nb_b17_0
         have B_1_70 := B_1_A1L.other W70 nb_b17_1
         have E_rv_70 := E_rv_A1L.wr W70
         have F_words_rv_70 := F_words_rv_A1L.other W70 (Or.inl ne_rv_b17)
         have F_held_rv_70 := F_held_rv_A1L.other W70 (Or.inl ne_rv_b17)
         have F_blocks_rv_70 := F_blocks_rv_A1L.other W70 (Or.inl ne_rv_b17)
         have F_sorted_rv_70 := F_sorted_rv_A1L.other W70 (Or.inl ne_rv_b17)
         have E_il_70 := E_il_A1L.wr W70
         have F_indices_il_70 := F_indices_il_A1L.other W70 (Or.inl ne_il_b17)
         have F_size_il_70 := F_size_il_A1L.other W70 (Or.inl ne_il_b17)
         have A_ix_70 := A_ix_A1L.other W70 ne_ix_b17
         have A_wd_70 := A_wd_A1L.other W70 ne_wd_b17
         have A_hd_70 := A_hd_A1L.other W70 ne_hd_b17
         have A_b14_70 := A_b14_A1L.other W70 ne_b14_b17
         have E_xa67_70 := E_xa67_A1L.wr W70
         have u70_xa67 := (Ne.symm (own_nx nb_b17_1 (i := 0) (by rw [hD67]; rfl)))
         have F_size_xa67_70 := F_size_xa67_A1L.other W70 (Or.inl u70_xa67)
         have F_senders_xa67_70 := F_senders_xa67_A1L.other W70 (Or.inl u70_xa67)
         have F_receivers_xa67_70 := F_receivers_xa67_A1L.other W70 (Or.inl u70_xa67)
         have F_messages_xa67_70 := F_messages_xa67_A1L.other W70 (Or.inl u70_xa67)
         have A_xb67_70 := A_xb67_A1L.other W70 (Ne.symm (own_nx nb_b17_1 (i := 1) (by rw [hD67]; rfl)))
         have A_xc67_70 := A_xc67_A1L.other W70 (Ne.symm (own_nx nb_b17_1 (i := 2) (by rw [hD67]; rfl)))
         have A_xd67_70 := A_xd67_A1L.other W70 (Ne.symm (own_nx nb_b17_1 (i := 3) (by rw [hD67]; rfl)))
         have N70 := Fr.snoc X70 NA1L ge_b17
         have Z70 : n0 ≤ h70.size := Nat.le_trans ZA1L (Keep.of_wr W70).1
         refine own_go (fun tg k => st70 tg k) ?_
         refine own_go (fun _ k => XS.aloadN X70.here hx rfl (hb hby d11_274) rfl rfl k) ?_
         obtain ⟨T71, X71, e71, st71⟩ := getF X70 hx hZ hown (host := "") (Or.inl (oW hw 62 rfl)) Via.refl e70 F_recipients_r0_70 (g := (mkF m 275 #[oR r0, oI p1, .val (.long (own_tot (own_tot (0 : Int64) La) Lb)), oS, oR ob, oI 2, oI 1, oR xa67, oI i, .val (.int (gg67 i.toNatClampNeg)), oU] [(.ref r0)])) rfl rfl (hb hby d11_275)
         refine own_go (fun tg k => st71 tg k) ?_
         refine own_go (fun _ k => XS.iload X71.here hx rfl (hb hby d11_278) rfl k) ?_
         have cq := isOf hZ e71 E_rv_70
         obtain ⟨cq72, kq72, q72a, q72b, q72c⟩ := cq
         have cq := X71.virtualBack hx (y := oM18) (z := oM18) hown (mvT hZ (oW hw 136 rfl)) (mvT hZ (oW hw 137 rfl)) (notFace_of_selects (args := #[]) (mvT hZ (oW hw 139 rfl))) (mvT hZ (oW hw 139 rfl)) (mvT hZ (oW hw 138 rfl)) (by decide) (backOf (W := 0) (rm16 l Z a0 hw [] rv (gg67 i.toNatClampNeg) wd hd il ix nb VL h70 n0 Z70 E_rv_70 F_words_rv_70 F_held_rv_70 F_blocks_rv_70 F_sorted_rv_70 E_il_70 F_indices_il_70 F_size_il_70 A_ix_70 A_hd_70 A_wd_70 ge_rv ge_wd ge_hd ge_il ge_ix ⟨(own_d64 hn (own_mem1 hm (own_gi_mem hl67 hg67 hI hc68))).2.1, (own_d64 hn (own_mem1 hm (own_gi_mem hl67 hg67 hI hc68))).2.2.2⟩ (own_I2k hl67 hI hc68 (own_VB2 fi La) (by omega))) hZ (oW hw 140 rfl) (oW hw 33 rfl) (by decide) (by decide)) q72a q72c (g := (mkF m 280 #[oR r0, oI p1, .val (.long (own_tot (own_tot (0 : Int64) La) Lb)), oS, oR ob, oI 2, oI 1, oR xa67, oI i, .val (.int (gg67 i.toNatClampNeg)), oU] [(.int (gg67 i.toNatClampNeg)), (.ref rv)])) rfl (by rw [hml]; rfl) (Steps.refl _) (argsL := [(.int (gg67 i.toNatClampNeg))]) (rest := []) (lenOf own_pd302 rfl) rfl (by show 2 * 0 + _ ≤ _; exact Nat.le_of_eq rfl) (hb hby d11_280) (fun _ _ => ⟨rfl, e71, (by decide : 2 + 0 ≤ _), (by decide : 6144 + 0 ≤ _)⟩)
         obtain ⟨_, _, ⟨T72, L72, k72, n72⟩, -, X72, ⟨Lc72, hQ72, l72, y72, z72⟩, st72⟩ := cq
         dsimp only [Pt.U, Pt.locs, Pt.cells, Pt.slots] at X72 l72 y72 z72 st72 hQ72
         replace y72 : 2 = k72 := y72.symm
         replace z72 : 6144 = n72 := z72.symm
         subst y72 z72
         obtain ⟨rfl, N72q, Kq72, E_rv_72, F_words_rv_72, F_held_rv_72, F_blocks_rv_72, F_sorted_rv_72, E_il_72, F_indices_il_72, F_size_il_72, A_ix_72, A_hd_72, A_wd_72⟩ := hQ72
         have N72 : Fr n0 L72 := by rw [l72]; exact Fr.app N70 N72q
         have E_r0_72 := E_r0_70.keep Kq72
         have u72_r0 := (ninS (ne_exa E_r0_70 E_rv_70 (by decide)) (ninS (own_ne_arf E_r0_70 (oW hw 7 rfl) A_wd_70) (ninS (own_ne_arf E_r0_70 (oW hw 7 rfl) A_hd_70) (ninS (ne_exa E_r0_70 E_il_70 (by decide)) (ninS (own_ne_arf E_r0_70 (oW hw 7 rfl) A_ix_70) nin0)))))
         have F_receivers_r0_72 := F_receivers_r0_70.keep Kq72 u72_r0
         have F_outboxes_r0_72 := F_outboxes_r0_70.keep Kq72 u72_r0
         have F_recipients_r0_72 := F_recipients_r0_70.keep Kq72 u72_r0
         have F_delivered_r0_72 := F_delivered_r0_70.keep Kq72 u72_r0
         have F_senders_r0_72 := F_senders_r0_70.keep Kq72 u72_r0
         have F_messages_r0_72 := F_messages_r0_70.keep Kq72 u72_r0
         have F_first_r0_72 := F_first_r0_70.keep Kq72 u72_r0
         have F_end_r0_72 := F_end_r0_70.keep Kq72 u72_r0
         have O_ob_72 := O_ob_70.keep Kq72 (ninS (Ne.symm (own_ne_oa E_rv_70 (oW hw 32 rfl) O_ob_70)) (ninS (Ne.symm (own_ne_oarf A_wd_70 O_ob_70 (by decide))) (ninS (Ne.symm (own_ne_oarf A_hd_70 O_ob_70 (by decide))) (ninS (Ne.symm (own_ne_oa E_il_70 (oW hw 43 rfl) O_ob_70)) (ninS (Ne.symm (own_ne_oarf A_ix_70 O_ob_70 (by decide))) nin0)))))
         have B_0_72 := B_0_70.keep Kq72 (allS nb_rv_0 (allS nb_wd_0 (allS nb_hd_0 (allS nb_il_0 (allS nb_ix_0 all0)))))
         have B_1_72 := B_1_70.keep Kq72 (allS nb_rv_1 (allS nb_wd_1 (allS nb_hd_1 (allS nb_il_1 (allS nb_ix_1 all0)))))
         have A_b14_72 := A_b14_70.keep Kq72 (ninS (Ne.symm ne_rv_b14) (ninS (Ne.symm ne_wd_b14) (ninS (Ne.symm ne_hd_b14) (ninS (Ne.symm ne_il_b14) (ninS (Ne.symm ne_ix_b14) nin0)))))
         have A_b17_72 := A_b17_70.keep Kq72 (ninS (Ne.symm ne_rv_b17) (ninS (Ne.symm ne_wd_b17) (ninS (Ne.symm ne_hd_b17) (ninS (Ne.symm ne_il_b17) (ninS (Ne.symm ne_ix_b17) nin0)))))
         have E_xa67_72 := E_xa67_70.keep Kq72
         have u72_xa67 := (ninS (Ne.symm (own_nx nb_rv_1 (i := 0) (by rw [hD67]; rfl))) (ninS (Ne.symm (own_nx nb_wd_1 (i := 0) (by rw [hD67]; rfl))) (ninS (Ne.symm (own_nx nb_hd_1 (i := 0) (by rw [hD67]; rfl))) (ninS (Ne.symm (own_nx nb_il_1 (i := 0) (by rw [hD67]; rfl))) (ninS (Ne.symm (own_nx nb_ix_1 (i := 0) (by rw [hD67]; rfl))) nin0)))))
         have F_size_xa67_72 := F_size_xa67_70.keep Kq72 u72_xa67
         have F_senders_xa67_72 := F_senders_xa67_70.keep Kq72 u72_xa67
         have F_receivers_xa67_72 := F_receivers_xa67_70.keep Kq72 u72_xa67
         have F_messages_xa67_72 := F_messages_xa67_70.keep Kq72 u72_xa67
         have A_xb67_72 := A_xb67_70.keep Kq72 (ninS (Ne.symm (own_nx nb_rv_1 (i := 1) (by rw [hD67]; rfl))) (ninS (Ne.symm (own_nx nb_wd_1 (i := 1) (by rw [hD67]; rfl))) (ninS (Ne.symm (own_nx nb_hd_1 (i := 1) (by rw [hD67]; rfl))) (ninS (Ne.symm (own_nx nb_il_1 (i := 1) (by rw [hD67]; rfl))) (ninS (Ne.symm (own_nx nb_ix_1 (i := 1) (by rw [hD67]; rfl))) nin0)))))
         have A_xc67_72 := A_xc67_70.keep Kq72 (ninS (Ne.symm (own_nx nb_rv_1 (i := 2) (by rw [hD67]; rfl))) (ninS (Ne.symm (own_nx nb_wd_1 (i := 2) (by rw [hD67]; rfl))) (ninS (Ne.symm (own_nx nb_hd_1 (i := 2) (by rw [hD67]; rfl))) (ninS (Ne.symm (own_nx nb_il_1 (i := 2) (by rw [hD67]; rfl))) (ninS (Ne.symm (own_nx nb_ix_1 (i := 2) (by rw [hD67]; rfl))) nin0)))))
         have A_xd67_72 := A_xd67_70.keep Kq72 (ninS (Ne.symm (own_nx nb_rv_1 (i := 3) (by rw [hD67]; rfl))) (ninS (Ne.symm (own_nx nb_wd_1 (i := 3) (by rw [hD67]; rfl))) (ninS (Ne.symm (own_nx nb_hd_1 (i := 3) (by rw [hD67]; rfl))) (ninS (Ne.symm (own_nx nb_il_1 (i := 3) (by rw [hD67]; rfl))) (ninS (Ne.symm (own_nx nb_ix_1 (i := 3) (by rw [hD67]; rfl))) nin0)))))
         have Z72 : n0 ≤ T72.heap.size := Nat.le_trans Z70 Kq72.1
         refine own_go (fun tg k => st72.trans k) ?_
         show oF (T72.setTop (mkF m 283 #[oR r0, oI p1, .val (.long (own_tot (own_tot (0 : Int64) La) Lb)), oS, oR ob, oI 2, oI 1, oR xa67, oI i, .val (.int (gg67 i.toNatClampNeg)), oU] []))
         refine own_go (fun _ k => XS.iinc X72.here hx rfl (hb hby d11_283) rfl (l' := #[oR r0, oI p1, .val (.long (own_tot (own_tot (0 : Int64) La) Lb)), oS, oR ob, oI 2, oI 1, oR xa67, .val (.int (i + (1 : Int32))), .val (.int (gg67 i.toNatClampNeg)), oU]) rfl (XS.goto X72.here hx rfl (pc0 := 286) (pc' := 243) rfl (hb hby d11_286) (by decide) (by decide) k)) ?_
         show oF (T72.setTop (mkF m 243 #[oR r0, oI p1, .val (.long (own_tot (own_tot (0 : Int64) La) Lb)), oS, oR ob, oI 2, oI 1, oR xa67, .val (.int (i + (1 : Int32))), .val (.int (gg67 i.toNatClampNeg)), oU] []))
         exact ihA1 _ (own_I2m hl67 hI hc68 hkA1) ((i + (1 : Int32))) ((own_set eL (gg67 i.toNatClampNeg) ((eL (gg67 i.toNatClampNeg).toNatClampNeg) + (1 : Int32)))) ((own_vad VL (gg67 i.toNatClampNeg))) T72 _ T72.heap (.val (.int (gg67 i.toNatClampNeg))) rfl (own_I2s hl67 hg67 hI hc68) (own_mono X72 (by decide) (by decide)) N72 rfl (One.val rfl) Z72 E_r0_72 F_receivers_r0_72 F_outboxes_r0_72 F_recipients_r0_72 F_delivered_r0_72 F_senders_r0_72 F_messages_r0_72 F_first_r0_72 F_end_r0_72 O_ob_72 B_0_72 B_1_72 E_rv_72 F_words_rv_72 F_held_rv_72 F_blocks_rv_72 F_sorted_rv_72 E_il_72 F_indices_il_72 F_size_il_72 A_ix_72 A_wd_72 A_hd_72 A_b14_72 A_b17_72 E_xa67_72 F_size_xa67_72 F_senders_xa67_72 F_receivers_xa67_72 F_messages_xa67_72 A_xb67_72 A_xc67_72 A_xd67_72
        ·refine own_go (fun _ k => XS.icmpYes XA1L.here hx rfl (pc0 := 250) (pc' := 289) rfl (hb hby d11_250) rfl (flt hc68).2.1 (by decide) (by decide) k) ?_
         show oF (TA1L.setTop (mkF m 289 #[oR r0, oI p1, .val (.long (own_tot (own_tot (0 : Int64) La) Lb)), oS, oR ob, oI 2, oI 1, oR xa67, oI i, j9A1, oU] []))
         exact hk21  TA1L _ hA1L (oR xa67) (oI i) (j9A1) (own_mono XA1L (by decide) (by decide)) NA1L eA1L (One.val rfl) (One.val rfl) hj9A1 ZA1L E_r0_A1L F_receivers_r0_A1L F_outboxes_r0_A1L F_recipients_r0_A1L F_delivered_r0_A1L F_senders_r0_A1L F_messages_r0_A1L F_first_r0_A1L F_end_r0_A1L O_ob_A1L B_0_A1L B_1_A1L E_rv_A1L F_words_rv_A1L F_held_rv_A1L F_blocks_rv_A1L (by rw [← (own_I2x hl67 hI hc68).2]; exact F_sorted_rv_A1L) E_il_A1L F_indices_il_A1L (by rw [← (own_I2x hl67 hI hc68).2]; exact F_size_il_A1L) (by rw [← (own_I2x hl67 hI hc68).2]; exact A_ix_A1L) (by rw [← (own_I2x hl67 hI hc68).2]; exact A_wd_A1L) (by rw [← (own_I2x hl67 hI hc68).2]; exact A_hd_A1L) A_b14_A1L (by rw [← (own_I2x hl67 hI hc68).1]; exact A_b17_A1L)
      exact loopA1 _ ((0 : Int32)) ((own_cnt (fun _ => (0 : Int32)) La)) ((own_adds (own_v0 fi) La)) T20L _ h20L (j920) rfl own_I20 (own_mono X20L (by decide) (by decide)) N20L e20L hj920 Z20L E_r0_20L F_receivers_r0_20L F_outboxes_r0_20L F_recipients_r0_20L F_delivered_r0_20L F_senders_r0_20L F_messages_r0_20L F_first_r0_20L F_end_r0_20L O_ob_20L B_0_20L B_1_20L E_rv_20L F_words_rv_20L F_held_rv_20L F_blocks_rv_20L F_sorted_rv_20L E_il_20L F_indices_il_20L F_size_il_20L A_ix_20L A_wd_20L A_hd_20L A_b14_20L A_b17_20L E_xa67_o F_size_xa67_o F_senders_xa67_o F_receivers_xa67_o F_messages_xa67_o A_xb67_o A_xc67_o A_xd67_o
    obtain ⟨hl73, ⟨hv73, hD73, hL73⟩ | ⟨xa73, xb73, xc73, xd73, q173, gg73, q373, hv73, hD73, hB73, hg73⟩⟩ := id B_0_18
    ·refine own_vr hv73 ?_
     show oF (T19.setTop (mkF m 233 #[oR r0, oI p1, .val (.long (own_tot (own_tot (0 : Int64) La) Lb)), oS, oR ob, oI 2, oI 0, j77, oU, oU, oU] [.null]))
     refine own_go (fun _ k => XS.astoreS X19.here hx rfl (hb hby d11_233) rfl rfl rfl rfl hj77 (XS.aload X19.here hx rfl (hb hby d11_235) rfl rfl (XS.ifnullYes X19.here hx rfl (pc0 := 237) (pc' := 289) rfl (hb hby d11_237) rfl (by decide) (by decide) k))) ?_
     show oF (T19.setTop (mkF m 289 #[oR r0, oI p1, .val (.long (own_tot (own_tot (0 : Int64) La) Lb)), oS, oR ob, oI 2, oI 0, .val .null, oU, oU, oU] []))
     exact hk20  T19 _ h18 (.val .null) (.unset) (.unset) (own_mono X19 (by decide) (by decide)) N18 e19 (One.val rfl) One.u One.u Z18 E_r0_18 F_receivers_r0_18 F_outboxes_r0_18 F_recipients_r0_18 F_delivered_r0_18 F_senders_r0_18 F_messages_r0_18 F_first_r0_18 F_end_r0_18 O_ob_18 B_0_18 B_1_18 E_rv_18 F_words_rv_18 F_held_rv_18 F_blocks_rv_18 (by rw [hL73]; exact F_sorted_rv_18) E_il_18 F_indices_il_18 (by rw [hL73]; exact F_size_il_18) (by rw [hL73]; exact A_ix_18) (by rw [hL73]; exact A_wd_18) (by rw [hL73]; exact A_hd_18) A_b14_18 (by rw [hL73]; exact A_b17_18)
    ·refine own_vr hv73 ?_
     show oF (T19.setTop (mkF m 233 #[oR r0, oI p1, .val (.long (own_tot (own_tot (0 : Int64) La) Lb)), oS, oR ob, oI 2, oI 0, j77, oU, oU, oU] [(.ref xa73)]))
     obtain ⟨⟨ge_xa73, ge_xb73, ge_xc73, ge_xd73, ne_xb73_xc73⟩, E_xa73_o, F_size_xa73_o, F_senders_xa73_o, F_receivers_xa73_o, F_messages_xa73_o, A_xb73_o, A_xc73_o, A_xd73_o⟩ := hB73
     refine own_go (fun _ k => XS.astoreS X19.here hx rfl (hb hby d11_233) rfl rfl rfl rfl hj77 (XS.aload X19.here hx rfl (hb hby d11_235) rfl rfl (XS.ifnullNo X19.here hx rfl (hb hby d11_237) rfl (XS.iconst X19.here hx rfl (hb hby d11_240) (XS.istore X19.here hx rfl (hb hby d11_241) rfl (l' := #[oR r0, oI p1, .val (.long (own_tot (own_tot (0 : Int64) La) Lb)), oS, oR ob, oI 2, oI 0, oR xa73, oI 0, oU, oU]) rfl k))))) ?_
     show oF (T19.setTop (mkF m 243 #[oR r0, oI p1, .val (.long (own_tot (own_tot (0 : Int64) La) Lb)), oS, oR ob, oI 2, oI 0, oR xa73, oI 0, oU, oU] []))
     have loopA0 : ∀ (kA0 : Nat) (i : Int32) (eL : Nat → Int32) (VL : own_V) (TA0L : State) (LA0L : List Loc) (hA0L : Heap) (j9A0 : Slot), kA0 = La.length - i.toNatClampNeg → own_I2 (fun _ => (0 : Int32)) (own_v0 fi) La i eL VL → Stand p l e rm11f_room s m #[(.ref r0), (.int p1)] below meth c TA0L LA0L 2 6144 → Fr n0 LA0L → TA0L.heap = hA0L → One j9A0 → n0 ≤ hA0L.size → Exa Z hA0L r0 oC0 → Fld Z hA0L r0 oC0 "receivers" "I" (.int n) → Fld Z hA0L r0 oC0 "outboxes" oC4 (.ref ob) → Fld Z hA0L r0 oC0 "recipients" oC6 (.ref rv) → Fld Z hA0L r0 oC0 "delivered" "I" (.int ((own_tot (own_tot (0 : Int64) La) Lb).toInt32)) → Fld Z hA0L r0 oC0 "senders" "[I" .null → Fld Z hA0L r0 oC0 "messages" "[J" .null → Fld Z hA0L r0 oC0 "first" "[I" (.ref b14) → Fld Z hA0L r0 oC0 "end" "[I" (.ref b17) → own_Oa Z hA0L ob oC2 v0 v1 → own_Box Z hA0L n0 v0 Da La → own_Box Z hA0L n0 v1 Db Lb → Exa Z hA0L rv oC1 → Fld Z hA0L rv oC1 "words" "[J" (.ref wd) → Fld Z hA0L rv oC1 "held" "[Z" (.ref hd) → Fld Z hA0L rv oC1 "blocks" oC5 (.ref il) → Fld Z hA0L rv oC1 "sorted" "Z" (.int VL.s_) → Exa Z hA0L il oC3 → Fld Z hA0L il oC3 "indices" "[I" (.ref ix) → Fld Z hA0L il oC3 "size" "I" (.int VL.k_) → own_Arf Z hA0L ix .int (16 : Int32) (fun i => .int (VL.f_ i)) → own_Arf Z hA0L wd .long (nb * (16 : Int32)) (fun i => .long (VL.w_ i)) → own_Arf Z hA0L hd .boolean nb (fun i => .int (VL.h_ i)) → own_Arf Z hA0L b14 .int n (fun i => .int ((fun _ => (0 : Int32)) i)) → own_Arf Z hA0L b17 .int n (fun i => .int (eL i)) → Exa Z hA0L xa73 oC2 → Fld Z hA0L xa73 oC2 "size" "I" (.int (Int32.ofNat La.length)) → Fld Z hA0L xa73 oC2 "senders" "[I" (.ref xb73) → Fld Z hA0L xa73 oC2 "receivers" "[I" (.ref xc73) → Fld Z hA0L xa73 oC2 "messages" "[J" (.ref xd73) → own_Arf Z hA0L xb73 .int (16 : Int32) (fun i => .int (q173 i)) → own_Arf Z hA0L xc73 .int (16 : Int32) (fun i => .int (gg73 i)) → own_Arf Z hA0L xd73 .long (16 : Int32) (fun i => .long (q373 i)) → own_Fin p.tables e below s (Qrm11f Z r0 p1 n La Lb h0 n0) rm11f_room.cells rm11f_room.slots (TA0L.setTop (mkF m 243 #[oR r0, oI p1, .val (.long (own_tot (own_tot (0 : Int64) La) Lb)), oS, oR ob, oI 2, oI 0, oR xa73, oI i, j9A0, oU] [])) := by
      intro kA0
      induction kA0 using Nat.strongRecOn with
      | _ kA0 ihA0 =>
       intro i eL VL TA0L LA0L hA0L j9A0 hkA0 hI XA0L NA0L eA0L hj9A0 ZA0L E_r0_A0L F_receivers_r0_A0L F_outboxes_r0_A0L F_recipients_r0_A0L F_delivered_r0_A0L F_senders_r0_A0L F_messages_r0_A0L F_first_r0_A0L F_end_r0_A0L O_ob_A0L B_0_A0L B_1_A0L E_rv_A0L F_words_rv_A0L F_held_rv_A0L F_blocks_rv_A0L F_sorted_rv_A0L E_il_A0L F_indices_il_A0L F_size_il_A0L A_ix_A0L A_wd_A0L A_hd_A0L A_b14_A0L A_b17_A0L E_xa73_A0L F_size_xa73_A0L F_senders_xa73_A0L F_receivers_xa73_A0L F_messages_xa73_A0L A_xb73_A0L A_xc73_A0L A_xd73_A0L
       show oF (TA0L.setTop (mkF m 243 #[oR r0, oI p1, .val (.long (own_tot (own_tot (0 : Int64) La) Lb)), oS, oR ob, oI 2, oI 0, oR xa73, oI i, j9A0, oU] []))
       refine own_go (fun _ k => XS.iload XA0L.here hx rfl (hb hby d11_243) rfl (XS.aload XA0L.here hx rfl (hb hby d11_245) rfl rfl k)) ?_
       refine own_go (fun tg k => own_getFR XA0L hx hZ hown (oW hw 125 rfl) eA0L F_size_xa73_A0L (g := (mkF m 247 #[oR r0, oI p1, .val (.long (own_tot (own_tot (0 : Int64) La) Lb)), oS, oR ob, oI 2, oI 0, oR xa73, oI i, j9A0, oU] [(.ref xa73), (.int i)])) rfl rfl (hb hby d11_247) tg k) ?_
       by_cases hc74 : i < (Int32.ofNat La.length)
       ·refine own_go (fun _ k => XS.icmpNo XA0L.here hx rfl (hb hby d11_250) rfl (tlt hc74).2.1 (XS.aload XA0L.here hx rfl (hb hby d11_253) rfl rfl k)) ?_
        refine own_go (fun tg k => own_getFR XA0L hx hZ hown (oW hw 135 rfl) eA0L F_receivers_xa73_A0L (g := (mkF m 255 #[oR r0, oI p1, .val (.long (own_tot (own_tot (0 : Int64) La) Lb)), oS, oR ob, oI 2, oI 0, oR xa73, oI i, j9A0, oU] [(.ref xa73)])) rfl rfl (hb hby d11_255) tg k) ?_
        refine own_go (fun _ k => XS.iload XA0L.here hx rfl (hb hby d11_258) rfl k) ?_
        refine own_go (fun tg k => own_iaload XA0L hx hZ eA0L A_xc73_A0L (j := i) (own_ib hl73 hI hc74) (x := (gg73 i.toNatClampNeg)) rfl (g := (mkF m 260 #[oR r0, oI p1, .val (.long (own_tot (own_tot (0 : Int64) La) Lb)), oS, oR ob, oI 2, oI 0, oR xa73, oI i, j9A0, oU] [(.int i), (.ref xc73)])) rfl rfl (hb hby d11_260) tg k) ?_
        refine own_go (fun _ k => XS.istoreS XA0L.here hx rfl (hb hby d11_261) rfl rfl hj9A0 (XS.aloadN XA0L.here hx rfl (hb hby d11_263) rfl rfl k)) ?_
        obtain ⟨T75, X75, e75, st75⟩ := getF XA0L hx hZ hown (host := "") (Or.inl (oW hw 69 rfl)) Via.refl eA0L F_end_r0_A0L (g := (mkF m 264 #[oR r0, oI p1, .val (.long (own_tot (own_tot (0 : Int64) La) Lb)), oS, oR ob, oI 2, oI 0, oR xa73, oI i, .val (.int (gg73 i.toNatClampNeg)), oU] [(.ref r0)])) rfl rfl (hb hby d11_264)
        refine own_go (fun tg k => st75 tg k) ?_
        refine own_go (fun _ k => XS.iload X75.here hx rfl (hb hby d11_267) rfl k) ?_
        refine own_go (fun _ k => Jvm.Free.XT.dup2 X75.here hx rfl (hb hby d11_269) rfl rfl rfl k) ?_
        refine own_go (fun tg k => own_iaload X75 hx hZ e75 A_b17_A0L (j := (gg73 i.toNatClampNeg)) (own_mem0 hm (own_gi_mem hl73 hg73 hI hc74)) (x := (eL (gg73 i.toNatClampNeg).toNatClampNeg)) rfl (g := (mkF m 270 #[oR r0, oI p1, .val (.long (own_tot (own_tot (0 : Int64) La) Lb)), oS, oR ob, oI 2, oI 0, oR xa73, oI i, .val (.int (gg73 i.toNatClampNeg)), oU] [(.int (gg73 i.toNatClampNeg)), (.ref b17), (.int (gg73 i.toNatClampNeg)), (.ref b17)])) rfl rfl (hb hby d11_270) tg k) ?_
        refine own_go (fun _ k => XS.iconst X75.here hx rfl (hb hby d11_271) (XS.iadd X75.here hx rfl (hb hby d11_272) rfl k)) ?_
        obtain ⟨T76, h76, X76, e76, W76, A_b17_76, st76⟩ := own_stI X75 hx hZ e75 A_b17_A0L (j := (gg73 i.toNatClampNeg)) (own_mem0 hm (own_gi_mem hl73 hg73 hI hc74)) (g := (mkF m 273 #[oR r0, oI p1, .val (.long (own_tot (own_tot (0 : Int64) La) Lb)), oS, oR ob, oI 2, oI 0, oR xa73, oI i, .val (.int (gg73 i.toNatClampNeg)), oU] [(.int ((eL (gg73 i.toNatClampNeg).toNatClampNeg) + (1 : Int32))), (.int (gg73 i.toNatClampNeg)), (.ref b17)])) rfl rfl (hb hby d11_273)
        have E_r0_76 := E_r0_A0L.wr W76
        have F_receivers_r0_76 := F_receivers_r0_A0L.other W76 (Or.inl ne_r0_b17)
        have F_outboxes_r0_76 := F_outboxes_r0_A0L.other W76 (Or.inl ne_r0_b17)
        have F_recipients_r0_76 := F_recipients_r0_A0L.other W76 (Or.inl ne_r0_b17)
        have F_delivered_r0_76 := F_delivered_r0_A0L.other W76 (Or.inl ne_r0_b17)
        have F_senders_r0_76 := F_senders_r0_A0L.other W76 (Or.inl ne_r0_b17)
        have F_messages_r0_76 := F_messages_r0_A0L.other W76 (Or.inl ne_r0_b17)
        have F_first_r0_76 := F_first_r0_A0L.other W76 (Or.inl ne_r0_b17)
        have F_end_r0_76 := F_end_r0_A0L.other W76 (Or.inl ne_r0_b17)
        have O_ob_76 := O_ob_A0L.other W76 ne_ob_b17
        have B_0_76 := B_0_A0L.other W76 nb_b17_0
        have B_1_76 := B_1_A0L.other W76 nb_b17_1
        have E_rv_76 := E_rv_A0L.wr W76
        have F_words_rv_76 := F_words_rv_A0L.other W76 (Or.inl ne_rv_b17)
        have F_held_rv_76 := F_held_rv_A0L.other W76 (Or.inl ne_rv_b17)
        have F_blocks_rv_76 := F_blocks_rv_A0L.other W76 (Or.inl ne_rv_b17)
        have F_sorted_rv_76 := F_sorted_rv_A0L.other W76 (Or.inl ne_rv_b17)
        have E_il_76 := E_il_A0L.wr W76
        have F_indices_il_76 := F_indices_il_A0L.other W76 (Or.inl ne_il_b17)
        have F_size_il_76 := F_size_il_A0L.other W76 (Or.inl ne_il_b17)
        have A_ix_76 := A_ix_A0L.other W76 ne_ix_b17
        have A_wd_76 := A_wd_A0L.other W76 ne_wd_b17
        have A_hd_76 := A_hd_A0L.other W76 ne_hd_b17
        have A_b14_76 := A_b14_A0L.other W76 ne_b14_b17
        have E_xa73_76 := E_xa73_A0L.wr W76
        have u76_xa73 := (Ne.symm (own_nx nb_b17_0 (i := 0) (by rw [hD73]; rfl)))
        have F_size_xa73_76 := F_size_xa73_A0L.other W76 (Or.inl u76_xa73)
        have F_senders_xa73_76 := F_senders_xa73_A0L.other W76 (Or.inl u76_xa73)
        have F_receivers_xa73_76 := F_receivers_xa73_A0L.other W76 (Or.inl u76_xa73)
        have F_messages_xa73_76 := F_messages_xa73_A0L.other W76 (Or.inl u76_xa73)
        have A_xb73_76 := A_xb73_A0L.other W76 (Ne.symm (own_nx nb_b17_0 (i := 1) (by rw [hD73]; rfl)))
        have A_xc73_76 := A_xc73_A0L.other W76 (Ne.symm (own_nx nb_b17_0 (i := 2) (by rw [hD73]; rfl)))
        have A_xd73_76 := A_xd73_A0L.other W76 (Ne.symm (own_nx nb_b17_0 (i := 3) (by rw [hD73]; rfl)))
        have N76 := Fr.snoc X76 NA0L ge_b17
        have Z76 : n0 ≤ h76.size := Nat.le_trans ZA0L (Keep.of_wr W76).1
        refine own_go (fun tg k => st76 tg k) ?_
        refine own_go (fun _ k => XS.aloadN X76.here hx rfl (hb hby d11_274) rfl rfl k) ?_
        obtain ⟨T77, X77, e77, st77⟩ := getF X76 hx hZ hown (host := "") (Or.inl (oW hw 62 rfl)) Via.refl e76 F_recipients_r0_76 (g := (mkF m 275 #[oR r0, oI p1, .val (.long (own_tot (own_tot (0 : Int64) La) Lb)), oS, oR ob, oI 2, oI 0, oR xa73, oI i, .val (.int (gg73 i.toNatClampNeg)), oU] [(.ref r0)])) rfl rfl (hb hby d11_275)
        refine own_go (fun tg k => st77 tg k) ?_
        refine own_go (fun _ k => XS.iload X77.here hx rfl (hb hby d11_278) rfl k) ?_
        have cq := isOf hZ e77 E_rv_76
        obtain ⟨cq78, kq78, q78a, q78b, q78c⟩ := cq
        have cq := X77.virtualBack hx (y := oM18) (z := oM18) hown (mvT hZ (oW hw 136 rfl)) (mvT hZ (oW hw 137 rfl)) (notFace_of_selects (args := #[]) (mvT hZ (oW hw 139 rfl))) (mvT hZ (oW hw 139 rfl)) (mvT hZ (oW hw 138 rfl)) (by decide) (backOf (W := 0) (rm16 l Z a0 hw [] rv (gg73 i.toNatClampNeg) wd hd il ix nb VL h76 n0 Z76 E_rv_76 F_words_rv_76 F_held_rv_76 F_blocks_rv_76 F_sorted_rv_76 E_il_76 F_indices_il_76 F_size_il_76 A_ix_76 A_hd_76 A_wd_76 ge_rv ge_wd ge_hd ge_il ge_ix ⟨(own_d64 hn (own_mem0 hm (own_gi_mem hl73 hg73 hI hc74))).2.1, (own_d64 hn (own_mem0 hm (own_gi_mem hl73 hg73 hI hc74))).2.2.2⟩ (own_I2k hl73 hI hc74 (own_VB0 fi) (by omega))) hZ (oW hw 140 rfl) (oW hw 33 rfl) (by decide) (by decide)) q78a q78c (g := (mkF m 280 #[oR r0, oI p1, .val (.long (own_tot (own_tot (0 : Int64) La) Lb)), oS, oR ob, oI 2, oI 0, oR xa73, oI i, .val (.int (gg73 i.toNatClampNeg)), oU] [(.int (gg73 i.toNatClampNeg)), (.ref rv)])) rfl (by rw [hml]; rfl) (Steps.refl _) (argsL := [(.int (gg73 i.toNatClampNeg))]) (rest := []) (lenOf own_pd302 rfl) rfl (by show 2 * 0 + _ ≤ _; exact Nat.le_of_eq rfl) (hb hby d11_280) (fun _ _ => ⟨rfl, e77, (by decide : 2 + 0 ≤ _), (by decide : 6144 + 0 ≤ _)⟩)
        obtain ⟨_, _, ⟨T78, L78, k78, n78⟩, -, X78, ⟨Lc78, hQ78, l78, y78, z78⟩, st78⟩ := cq
        dsimp only [Pt.U, Pt.locs, Pt.cells, Pt.slots] at X78 l78 y78 z78 st78 hQ78
        replace y78 : 2 = k78 := y78.symm
        replace z78 : 6144 = n78 := z78.symm
        subst y78 z78
        obtain ⟨rfl, N78q, Kq78, E_rv_78, F_words_rv_78, F_held_rv_78, F_blocks_rv_78, F_sorted_rv_78, E_il_78, F_indices_il_78, F_size_il_78, A_ix_78, A_hd_78, A_wd_78⟩ := hQ78
        have N78 : Fr n0 L78 := by rw [l78]; exact Fr.app N76 N78q
        have E_r0_78 := E_r0_76.keep Kq78
        have u78_r0 := (ninS (ne_exa E_r0_76 E_rv_76 (by decide)) (ninS (own_ne_arf E_r0_76 (oW hw 7 rfl) A_wd_76) (ninS (own_ne_arf E_r0_76 (oW hw 7 rfl) A_hd_76) (ninS (ne_exa E_r0_76 E_il_76 (by decide)) (ninS (own_ne_arf E_r0_76 (oW hw 7 rfl) A_ix_76) nin0)))))
        have F_receivers_r0_78 := F_receivers_r0_76.keep Kq78 u78_r0
        have F_outboxes_r0_78 := F_outboxes_r0_76.keep Kq78 u78_r0
        have F_recipients_r0_78 := F_recipients_r0_76.keep Kq78 u78_r0
        have F_delivered_r0_78 := F_delivered_r0_76.keep Kq78 u78_r0
        have F_senders_r0_78 := F_senders_r0_76.keep Kq78 u78_r0
        have F_messages_r0_78 := F_messages_r0_76.keep Kq78 u78_r0
        have F_first_r0_78 := F_first_r0_76.keep Kq78 u78_r0
        have F_end_r0_78 := F_end_r0_76.keep Kq78 u78_r0
        have O_ob_78 := O_ob_76.keep Kq78 (ninS (Ne.symm (own_ne_oa E_rv_76 (oW hw 32 rfl) O_ob_76)) (ninS (Ne.symm (own_ne_oarf A_wd_76 O_ob_76 (by decide))) (ninS (Ne.symm (own_ne_oarf A_hd_76 O_ob_76 (by decide))) (ninS (Ne.symm (own_ne_oa E_il_76 (oW hw 43 rfl) O_ob_76)) (ninS (Ne.symm (own_ne_oarf A_ix_76 O_ob_76 (by decide))) nin0)))))
        have B_0_78 := B_0_76.keep Kq78 (allS nb_rv_0 (allS nb_wd_0 (allS nb_hd_0 (allS nb_il_0 (allS nb_ix_0 all0)))))
        have B_1_78 := B_1_76.keep Kq78 (allS nb_rv_1 (allS nb_wd_1 (allS nb_hd_1 (allS nb_il_1 (allS nb_ix_1 all0)))))
        have A_b14_78 := A_b14_76.keep Kq78 (ninS (Ne.symm ne_rv_b14) (ninS (Ne.symm ne_wd_b14) (ninS (Ne.symm ne_hd_b14) (ninS (Ne.symm ne_il_b14) (ninS (Ne.symm ne_ix_b14) nin0)))))
        have A_b17_78 := A_b17_76.keep Kq78 (ninS (Ne.symm ne_rv_b17) (ninS (Ne.symm ne_wd_b17) (ninS (Ne.symm ne_hd_b17) (ninS (Ne.symm ne_il_b17) (ninS (Ne.symm ne_ix_b17) nin0)))))
        have E_xa73_78 := E_xa73_76.keep Kq78
        have u78_xa73 := (ninS (Ne.symm (own_nx nb_rv_0 (i := 0) (by rw [hD73]; rfl))) (ninS (Ne.symm (own_nx nb_wd_0 (i := 0) (by rw [hD73]; rfl))) (ninS (Ne.symm (own_nx nb_hd_0 (i := 0) (by rw [hD73]; rfl))) (ninS (Ne.symm (own_nx nb_il_0 (i := 0) (by rw [hD73]; rfl))) (ninS (Ne.symm (own_nx nb_ix_0 (i := 0) (by rw [hD73]; rfl))) nin0)))))
        have F_size_xa73_78 := F_size_xa73_76.keep Kq78 u78_xa73
        have F_senders_xa73_78 := F_senders_xa73_76.keep Kq78 u78_xa73
        have F_receivers_xa73_78 := F_receivers_xa73_76.keep Kq78 u78_xa73
        have F_messages_xa73_78 := F_messages_xa73_76.keep Kq78 u78_xa73
        have A_xb73_78 := A_xb73_76.keep Kq78 (ninS (Ne.symm (own_nx nb_rv_0 (i := 1) (by rw [hD73]; rfl))) (ninS (Ne.symm (own_nx nb_wd_0 (i := 1) (by rw [hD73]; rfl))) (ninS (Ne.symm (own_nx nb_hd_0 (i := 1) (by rw [hD73]; rfl))) (ninS (Ne.symm (own_nx nb_il_0 (i := 1) (by rw [hD73]; rfl))) (ninS (Ne.symm (own_nx nb_ix_0 (i := 1) (by rw [hD73]; rfl))) nin0)))))
        have A_xc73_78 := A_xc73_76.keep Kq78 (ninS (Ne.symm (own_nx nb_rv_0 (i := 2) (by rw [hD73]; rfl))) (ninS (Ne.symm (own_nx nb_wd_0 (i := 2) (by rw [hD73]; rfl))) (ninS (Ne.symm (own_nx nb_hd_0 (i := 2) (by rw [hD73]; rfl))) (ninS (Ne.symm (own_nx nb_il_0 (i := 2) (by rw [hD73]; rfl))) (ninS (Ne.symm (own_nx nb_ix_0 (i := 2) (by rw [hD73]; rfl))) nin0)))))
        have A_xd73_78 := A_xd73_76.keep Kq78 (ninS (Ne.symm (own_nx nb_rv_0 (i := 3) (by rw [hD73]; rfl))) (ninS (Ne.symm (own_nx nb_wd_0 (i := 3) (by rw [hD73]; rfl))) (ninS (Ne.symm (own_nx nb_hd_0 (i := 3) (by rw [hD73]; rfl))) (ninS (Ne.symm (own_nx nb_il_0 (i := 3) (by rw [hD73]; rfl))) (ninS (Ne.symm (own_nx nb_ix_0 (i := 3) (by rw [hD73]; rfl))) nin0)))))
        have Z78 : n0 ≤ T78.heap.size := Nat.le_trans Z76 Kq78.1
        refine own_go (fun tg k => st78.trans k) ?_
        show oF (T78.setTop (mkF m 283 #[oR r0, oI p1, .val (.long (own_tot (own_tot (0 : Int64) La) Lb)), oS, oR ob, oI 2, oI 0, oR xa73, oI i, .val (.int (gg73 i.toNatClampNeg)), oU] []))
        refine own_go (fun _ k => XS.iinc X78.here hx rfl (hb hby d11_283) rfl (l' := #[oR r0, oI p1, .val (.long (own_tot (own_tot (0 : Int64) La) Lb)), oS, oR ob, oI 2, oI 0, oR xa73, .val (.int (i + (1 : Int32))), .val (.int (gg73 i.toNatClampNeg)), oU]) rfl (XS.goto X78.here hx rfl (pc0 := 286) (pc' := 243) rfl (hb hby d11_286) (by decide) (by decide) k)) ?_
        show oF (T78.setTop (mkF m 243 #[oR r0, oI p1, .val (.long (own_tot (own_tot (0 : Int64) La) Lb)), oS, oR ob, oI 2, oI 0, oR xa73, .val (.int (i + (1 : Int32))), .val (.int (gg73 i.toNatClampNeg)), oU] []))
        exact ihA0 _ (own_I2m hl73 hI hc74 hkA0) ((i + (1 : Int32))) ((own_set eL (gg73 i.toNatClampNeg) ((eL (gg73 i.toNatClampNeg).toNatClampNeg) + (1 : Int32)))) ((own_vad VL (gg73 i.toNatClampNeg))) T78 _ T78.heap (.val (.int (gg73 i.toNatClampNeg))) rfl (own_I2s hl73 hg73 hI hc74) (own_mono X78 (by decide) (by decide)) N78 rfl (One.val rfl) Z78 E_r0_78 F_receivers_r0_78 F_outboxes_r0_78 F_recipients_r0_78 F_delivered_r0_78 F_senders_r0_78 F_messages_r0_78 F_first_r0_78 F_end_r0_78 O_ob_78 B_0_78 B_1_78 E_rv_78 F_words_rv_78 F_held_rv_78 F_blocks_rv_78 F_sorted_rv_78 E_il_78 F_indices_il_78 F_size_il_78 A_ix_78 A_wd_78 A_hd_78 A_b14_78 A_b17_78 E_xa73_78 F_size_xa73_78 F_senders_xa73_78 F_receivers_xa73_78 F_messages_xa73_78 A_xb73_78 A_xc73_78 A_xd73_78
       ·refine own_go (fun _ k => XS.icmpYes XA0L.here hx rfl (pc0 := 250) (pc' := 289) rfl (hb hby d11_250) rfl (flt hc74).2.1 (by decide) (by decide) k) ?_
        show oF (TA0L.setTop (mkF m 289 #[oR r0, oI p1, .val (.long (own_tot (own_tot (0 : Int64) La) Lb)), oS, oR ob, oI 2, oI 0, oR xa73, oI i, j9A0, oU] []))
        exact hk20  TA0L _ hA0L (oR xa73) (oI i) (j9A0) (own_mono XA0L (by decide) (by decide)) NA0L eA0L (One.val rfl) (One.val rfl) hj9A0 ZA0L E_r0_A0L F_receivers_r0_A0L F_outboxes_r0_A0L F_recipients_r0_A0L F_delivered_r0_A0L F_senders_r0_A0L F_messages_r0_A0L F_first_r0_A0L F_end_r0_A0L O_ob_A0L B_0_A0L B_1_A0L E_rv_A0L F_words_rv_A0L F_held_rv_A0L F_blocks_rv_A0L (by rw [← (own_I2x hl73 hI hc74).2]; exact F_sorted_rv_A0L) E_il_A0L F_indices_il_A0L (by rw [← (own_I2x hl73 hI hc74).2]; exact F_size_il_A0L) (by rw [← (own_I2x hl73 hI hc74).2]; exact A_ix_A0L) (by rw [← (own_I2x hl73 hI hc74).2]; exact A_wd_A0L) (by rw [← (own_I2x hl73 hI hc74).2]; exact A_hd_A0L) A_b14_A0L (by rw [← (own_I2x hl73 hI hc74).1]; exact A_b17_A0L)
     exact loopA0 _ ((0 : Int32)) ((fun _ => (0 : Int32))) ((own_v0 fi)) T19 _ h18 (.unset) rfl own_I20 (own_mono X19 (by decide) (by decide)) N18 e19 One.u Z18 E_r0_18 F_receivers_r0_18 F_outboxes_r0_18 F_recipients_r0_18 F_delivered_r0_18 F_senders_r0_18 F_messages_r0_18 F_first_r0_18 F_end_r0_18 O_ob_18 B_0_18 B_1_18 E_rv_18 F_words_rv_18 F_held_rv_18 F_blocks_rv_18 F_sorted_rv_18 E_il_18 F_indices_il_18 F_size_il_18 A_ix_18 A_wd_18 A_hd_18 A_b14_18 A_b17_18 E_xa73_o F_size_xa73_o F_senders_xa73_o F_receivers_xa73_o F_messages_xa73_o A_xb73_o A_xc73_o A_xd73_o
  obtain ⟨hl79, ⟨hv79, hD79, hL79⟩ | ⟨xa79, xb79, xc79, xd79, q179, gg79, q379, hv79, hD79, hB79, hg79⟩⟩ := id B_1_6L
  ·refine own_vr hv79 ?_
   show oF (T6L.setTop (mkF m 103 #[oR r0, oI p1, .val (.long (own_tot (0 : Int64) La)), oS, oR ob, oI 2, oI 1, j76, oU, oU, oU] [.null]))
   refine own_go (fun _ k => XS.astoreS X6L.here hx rfl (hb hby d11_103) rfl rfl rfl rfl hj76 (XS.lloadN X6L.here hx rfl (hb hby d11_105) rfl (XS.aload X6L.here hx rfl (hb hby d11_106) rfl rfl (XS.ifnonnullNo X6L.here hx rfl (hb hby d11_108) rfl (XS.lconst X6L.here hx rfl (hb hby d11_111) (XS.goto X6L.here hx rfl (pc0 := 112) (pc' := 121) rfl (hb hby d11_112) (by decide) (by decide) (XS.ladd X6L.here hx rfl (hb hby d11_121) rfl (XS.lstoreN X6L.here hx rfl (hb hby d11_122) rfl (l' := #[oR r0, oI p1, .val (.long ((own_tot (0 : Int64) La) + (0 : Int64))), oS, oR ob, oI 2, oI 1, .val .null, oU, oU, oU]) rfl k)))))))) ?_
   have kj := hk7  T6L _ h6L (.val .null) (own_mono X6L (by decide) (by decide)) N6L e6L (One.val rfl) Z6L E_r0_6L F_receivers_r0_6L F_outboxes_r0_6L F_recipients_r0_6L F_delivered_r0_6L F_senders_r0_6L F_messages_r0_6L F_first_r0_6L F_end_r0_6L O_ob_6L B_0_6L B_1_6L E_rv_6L F_words_rv_6L F_held_rv_6L F_blocks_rv_6L F_sorted_rv_6L E_il_6L F_indices_il_6L F_size_il_6L A_ix_6L A_wd_6L A_hd_6L
   rw [show (own_tot (own_tot (0 : Int64) La) Lb) = ((own_tot (0 : Int64) La) + (0 : Int64)) from by rw [hL79]; first | rfl | decide | simp [own_tot]] at kj
   exact kj
  ·refine own_vr hv79 ?_
   show oF (T6L.setTop (mkF m 103 #[oR r0, oI p1, .val (.long (own_tot (0 : Int64) La)), oS, oR ob, oI 2, oI 1, j76, oU, oU, oU] [(.ref xa79)]))
   obtain ⟨⟨ge_xa79, ge_xb79, ge_xc79, ge_xd79, ne_xb79_xc79⟩, E_xa79_o, F_size_xa79_o, F_senders_xa79_o, F_receivers_xa79_o, F_messages_xa79_o, A_xb79_o, A_xc79_o, A_xd79_o⟩ := hB79
   refine own_go (fun _ k => XS.astoreS X6L.here hx rfl (hb hby d11_103) rfl rfl rfl rfl hj76 (XS.lloadN X6L.here hx rfl (hb hby d11_105) rfl (XS.aload X6L.here hx rfl (hb hby d11_106) rfl rfl (XS.ifnonnullYes X6L.here hx rfl (pc0 := 108) (pc' := 115) rfl (hb hby d11_108) rfl (by decide) (by decide) (XS.aload X6L.here hx rfl (hb hby d11_115) rfl rfl k))))) ?_
   refine own_go (fun tg k => own_getFR X6L hx hZ hown (oW hw 125 rfl) e6L F_size_xa79_o (g := (mkF m 117 #[oR r0, oI p1, .val (.long (own_tot (0 : Int64) La)), oS, oR ob, oI 2, oI 1, oR xa79, oU, oU, oU] [(.ref xa79), (.long (own_tot (0 : Int64) La))])) rfl rfl (hb hby d11_117) tg k) ?_
   refine own_go (fun _ k => XS.i2l X6L.here hx rfl (hb hby d11_120) rfl k) ?_
   show oF (T6L.setTop (mkF m 121 #[oR r0, oI p1, .val (.long (own_tot (0 : Int64) La)), oS, oR ob, oI 2, oI 1, oR xa79, oU, oU, oU] [(.long ((Int32.ofNat Lb.length).toInt64)), (.long (own_tot (0 : Int64) La))]))
   refine own_go (fun _ k => XS.ladd X6L.here hx rfl (hb hby d11_121) rfl (XS.lstoreN X6L.here hx rfl (hb hby d11_122) rfl (l' := #[oR r0, oI p1, .val (.long ((own_tot (0 : Int64) La) + ((Int32.ofNat Lb.length).toInt64))), oS, oR ob, oI 2, oI 1, oR xa79, oU, oU, oU]) rfl k)) ?_
   exact hk7  T6L _ h6L (oR xa79) (own_mono X6L (by decide) (by decide)) N6L e6L (One.val rfl) Z6L E_r0_6L F_receivers_r0_6L F_outboxes_r0_6L F_recipients_r0_6L F_delivered_r0_6L F_senders_r0_6L F_messages_r0_6L F_first_r0_6L F_end_r0_6L O_ob_6L B_0_6L B_1_6L E_rv_6L F_words_rv_6L F_held_rv_6L F_blocks_rv_6L F_sorted_rv_6L E_il_6L F_indices_il_6L F_size_il_6L A_ix_6L A_wd_6L A_hd_6L
 obtain ⟨hl80, ⟨hv80, hD80, hL80⟩ | ⟨xa80, xb80, xc80, xd80, q180, gg80, q380, hv80, hD80, hB80, hg80⟩⟩ := id B_0_4
 ·refine own_vr hv80 ?_
  show oF (T5.setTop (mkF m 103 #[oR r0, oI p1, .val (.long (0 : Int64)), oS, oR ob, oI 2, oI 0, oU, oU, oU, oU] [.null]))
  refine own_go (fun _ k => XS.astore X5.here hx rfl (hb hby d11_103) rfl rfl (l' := #[oR r0, oI p1, .val (.long (0 : Int64)), oS, oR ob, oI 2, oI 0, .val .null, oU, oU, oU]) rfl (XS.lloadN X5.here hx rfl (hb hby d11_105) rfl (XS.aload X5.here hx rfl (hb hby d11_106) rfl rfl (XS.ifnonnullNo X5.here hx rfl (hb hby d11_108) rfl (XS.lconst X5.here hx rfl (hb hby d11_111) (XS.goto X5.here hx rfl (pc0 := 112) (pc' := 121) rfl (hb hby d11_112) (by decide) (by decide) (XS.ladd X5.here hx rfl (hb hby d11_121) rfl k))))))) ?_
  show oF (T5.setTop (mkF m 122 #[oR r0, oI p1, .val (.long (0 : Int64)), oS, oR ob, oI 2, oI 0, .val .null, oU, oU, oU] [(.long (0 : Int64))]))
  refine own_go (fun _ k => XS.lstoreN X5.here hx rfl (hb hby d11_122) rfl (l' := #[oR r0, oI p1, .val (.long (0 : Int64)), oS, oR ob, oI 2, oI 0, .val .null, oU, oU, oU]) rfl k) ?_
  have kj := hk6  T5 _ T4.heap (.val .null) (own_mono X5 (by decide) (by decide)) N4 e5 (One.val rfl) Z4 E_r0_4 F_receivers_r0_4 F_outboxes_r0_4 F_recipients_r0_4 F_delivered_r0_4 F_senders_r0_4 F_messages_r0_4 F_first_r0_4 F_end_r0_4 O_ob_4 B_0_4 B_1_4 E_rv_4 F_words_rv_4 F_held_rv_4 F_blocks_rv_4 F_sorted_rv_4 E_il_4 F_indices_il_4 F_size_il_4 A_ix_4 A_wd_4 A_hd_4
  rw [show (own_tot (0 : Int64) La) = (0 : Int64) from by rw [hL80]; first | rfl | decide | simp [own_tot]] at kj
  exact kj
 ·refine own_vr hv80 ?_
  show oF (T5.setTop (mkF m 103 #[oR r0, oI p1, .val (.long (0 : Int64)), oS, oR ob, oI 2, oI 0, oU, oU, oU, oU] [(.ref xa80)]))
  obtain ⟨⟨ge_xa80, ge_xb80, ge_xc80, ge_xd80, ne_xb80_xc80⟩, E_xa80_o, F_size_xa80_o, F_senders_xa80_o, F_receivers_xa80_o, F_messages_xa80_o, A_xb80_o, A_xc80_o, A_xd80_o⟩ := hB80
  refine own_go (fun _ k => XS.astore X5.here hx rfl (hb hby d11_103) rfl rfl (l' := #[oR r0, oI p1, .val (.long (0 : Int64)), oS, oR ob, oI 2, oI 0, oR xa80, oU, oU, oU]) rfl (XS.lloadN X5.here hx rfl (hb hby d11_105) rfl (XS.aload X5.here hx rfl (hb hby d11_106) rfl rfl (XS.ifnonnullYes X5.here hx rfl (pc0 := 108) (pc' := 115) rfl (hb hby d11_108) rfl (by decide) (by decide) (XS.aload X5.here hx rfl (hb hby d11_115) rfl rfl k))))) ?_
  refine own_go (fun tg k => own_getFR X5 hx hZ hown (oW hw 125 rfl) e5 F_size_xa80_o (g := (mkF m 117 #[oR r0, oI p1, .val (.long (0 : Int64)), oS, oR ob, oI 2, oI 0, oR xa80, oU, oU, oU] [(.ref xa80), (.long (0 : Int64))])) rfl rfl (hb hby d11_117) tg k) ?_
  refine own_go (fun _ k => XS.i2l X5.here hx rfl (hb hby d11_120) rfl k) ?_
  show oF (T5.setTop (mkF m 121 #[oR r0, oI p1, .val (.long (0 : Int64)), oS, oR ob, oI 2, oI 0, oR xa80, oU, oU, oU] [(.long ((Int32.ofNat La.length).toInt64)), (.long (0 : Int64))]))
  refine own_go (fun _ k => XS.ladd X5.here hx rfl (hb hby d11_121) rfl (XS.lstoreN X5.here hx rfl (hb hby d11_122) rfl (l' := #[oR r0, oI p1, .val (.long ((0 : Int64) + ((Int32.ofNat La.length).toInt64))), oS, oR ob, oI 2, oI 0, oR xa80, oU, oU, oU]) rfl k)) ?_
  exact hk6  T5 _ T4.heap (oR xa80) (own_mono X5 (by decide) (by decide)) N4 e5 (One.val rfl) Z4 E_r0_4 F_receivers_r0_4 F_outboxes_r0_4 F_recipients_r0_4 F_delivered_r0_4 F_senders_r0_4 F_messages_r0_4 F_first_r0_4 F_end_r0_4 O_ob_4 B_0_4 B_1_4 E_rv_4 F_words_rv_4 F_held_rv_4 F_blocks_rv_4 F_sorted_rv_4 E_il_4 F_indices_il_4 F_size_il_4 A_ix_4 A_wd_4 A_hd_4
theorem d11_13 : oQ oD31 13 (.aload_n 0) 1 := by decide +kernel
theorem d11_14 : oQ oD31 14 (.getfield 36) 3 := by decide +kernel
theorem d11_17 : oQ oD31 17 (.iload_n 2) 1 := by decide +kernel
theorem d11_18 : oQ oD31 18 (.invokevirtual 67) 3 := by decide +kernel
theorem d11_21 : oQ oD31 21 (.istore_n 3) 1 := by decide +kernel
theorem d11_22 : oQ oD31 22 (.iload_n 3) 1 := by decide +kernel
theorem d11_23 : oQ oD31 23 (.aload_n 0) 1 := by decide +kernel
theorem d11_24 : oQ oD31 24 (.getfield 9) 3 := by decide +kernel
theorem d11_27 : oQ oD31 27 (.invokestatic 70) 3 := by decide +kernel
theorem d11_30 : oQ oD31 30 (.istore 4) 2 := by decide +kernel
theorem d11_32 : oQ oD31 32 (.aload_n 0) 1 := by decide +kernel
theorem d11_33 : oQ oD31 33 (.getfield 47) 3 := by decide +kernel
theorem d11_36 : oQ oD31 36 (.iload_n 3) 1 := by decide +kernel
theorem d11_37 : oQ oD31 37 (.sipush 1024) 3 := by decide +kernel
theorem d11_40 : oQ oD31 40 .imul 1 := by decide +kernel
theorem d11_41 : oQ oD31 41 (.iload 4) 2 := by decide +kernel
theorem d11_43 : oQ oD31 43 (.iconst 0) 1 := by decide +kernel
theorem d11_44 : oQ oD31 44 (.invokestatic 74) 3 := by decide +kernel
theorem d11_47 : oQ oD31 47 (.aload_n 0) 1 := by decide +kernel
theorem d11_48 : oQ oD31 48 (.getfield 51) 3 := by decide +kernel
theorem d11_51 : oQ oD31 51 (.iload_n 3) 1 := by decide +kernel
theorem d11_52 : oQ oD31 52 (.sipush 1024) 3 := by decide +kernel
theorem d11_55 : oQ oD31 55 .imul 1 := by decide +kernel
theorem d11_56 : oQ oD31 56 (.iload 4) 2 := by decide +kernel
theorem d11_58 : oQ oD31 58 (.iconst 0) 1 := by decide +kernel
theorem d11_59 : oQ oD31 59 (.invokestatic 74) 3 := by decide +kernel
theorem d11_62 : oQ oD31 62 (.iinc 2 1) 3 := by decide +kernel
theorem d11_65 : oQ oD31 65 (.goto (-63)) 3 := by decide +kernel
def Qrm11u (Z : State) (r0 : Addr) (p1 : Int32) (n : Int32) (M : List Int32) (h0 : Heap) (n0 : Nat) (v : Option Value) (h : Heap) (L : List Loc) : Prop := v = some (.int 0) ∧ Fr n0 L ∧ h0.size ≤ h.size ∧ own_AMr Z h n0 r0 n (fun _ => (0 : Int32))
set_option maxRecDepth 65536 in
set_option maxHeartbeats 40000000 in
theorem rm11u (l : Launch) (Z : State) (a0 : Array Value) (hw : oH Z a0) (ws : List Jvm.Cond) (r0 : Addr) (p1 : Int32) (n : Int32) (M : List Int32) (h0 : Heap) (n0 : Nat) (Z0 : n0 ≤ h0.size) (H : own_AMu Z h0 n0 r0 n M) :
    MetFree l oM31 (head1 (Jvm.Cond.code oM31 prog_18_method_9_code 11 (some .boolean) :: ws) rm11f_room) (fun a U => a = #[(.ref r0), (.int p1)] ∧ Z.Warmed39 U.vm ∧ U.heap = h0) (fun _ _ _ _ _ => True) (fun _ U o U' => ∃ v L, o = .returned v ∧ Qrm11u Z r0 p1 n M h0 n0 v U'.heap L ∧ FrameEnd U o U' L rm11f_room.cells rm11f_room.slots) := by
 refine MetFree.of_bodySF (plainFor_of_name pn_11) hisR ?_
 intro p e s m args below meth c s₁ Bd hml0 hP hK
 obtain ⟨rfl, hZ, hh⟩ := hP
 have hx := Bd.exec
 have hby := Bd.bytes
 have hml : c.maxLocals = 11 := hml0
 have hown : s.vm.findClass oC0 = some m.cls := findClass_of_methodNamed Bd.named
 have hnm := (name_of_methodNamed Bd.named Bd.method).1
 have hlk : meth.locks = false := BodyLoose.notSynchronized Bd
 have X0 : Stand p l e rm11f_room s m #[(.ref r0), (.int p1)] below meth c s₁ [] 0 0 := Stand.of_body Bd
 have e0 : s₁.heap = h0 := by rw [← hh, Bd.state]; rfl
 have N0 := Fr.nil n0
 show own_Fin p.tables e below s (Qrm11u Z r0 p1 n M h0 n0) rm11f_room.cells rm11f_room.slots (s₁.setTop (entryFrame m #[(.ref r0), (.int p1)] 11))
 rw [ef_11]
 show oF (s₁.setTop (mkF m 0 #[oR r0, oI p1, oU, oU, oU, oU, oU, oU, oU, oU, oU] []))
 obtain ⟨ob, rv, dl, vS, vM, fa, ea, v0, v1, Da, Db, wd, hd, il, ix, nb, fi, kz, fw, fh, fF0, E_r0_0, F_receivers_r0_0, F_outboxes_r0_0, F_recipients_r0_0, F_delivered_r0_0, F_senders_r0_0, F_messages_r0_0, F_first_r0_0, F_end_r0_0, O_ob_0, B_0_0, B_1_0, E_rv_0, F_words_rv_0, F_held_rv_0, F_blocks_rv_0, F_sorted_rv_0, E_il_0, F_indices_il_0, F_size_il_0, A_ix_0, A_wd_0, A_hd_0, A_fa_0, A_ea_0, ne_fa_ea, ne_ix_fa, ne_ix_ea, hBS, hm, ge_r0, ge_rv, ge_wd, ge_hd, ge_il, ge_ix, ge_fa, ge_ea, ge_ob, nb_r0_0, nb_r0_1, nb_rv_0, nb_rv_1, nb_wd_0, nb_wd_1, nb_hd_0, nb_hd_1, nb_il_0, nb_il_1, nb_ix_0, nb_ix_1, nb_fa_0, nb_fa_1, nb_ea_0, nb_ea_1, nb_ob_0, nb_ob_1, hdj, hn⟩ := H
 obtain ⟨La, hLa⟩ : ∃ z : List Int32, z = [] := ⟨_, rfl⟩
 rw [← hLa] at B_0_0
 obtain ⟨Lb, hLb⟩ : ∃ z : List Int32, z = [] := ⟨_, rfl⟩
 rw [← hLb] at B_1_0
 have hz : La ++ Lb = [] := by rw [hLa, hLb]; rfl
 have hl : La.length + Lb.length ≤ 4 := by rw [hLa, hLb]; decide
 have hdk : ∀ x ∈ Db, x ∉ Da := fun x h1 h0 => hdj x h0 h1
 refine own_go (fun _ k => XS.iconst X0.here hx rfl (hb hby d11_0) (XS.istoreN X0.here hx rfl (hb hby d11_1) rfl (l' := #[oR r0, oI p1, oI 0, oU, oU, oU, oU, oU, oU, oU, oU]) rfl k)) ?_
 show oF (s₁.setTop (mkF m 2 #[oR r0, oI p1, oI 0, oU, oU, oU, oU, oU, oU, oU, oU] []))
 have loopU : ∀ (kU : Nat) (i : Int32) (fF : Nat → Int32) (eF : Nat → Int32) (TUL : State) (LUL : List Loc) (hUL : Heap) (j3U : Slot) (j4U : Slot), kU = (8 - i.toInt).toNat → own_ZI M n kz fi i eF → Stand p l e rm11f_room s m #[(.ref r0), (.int p1)] below meth c TUL LUL 0 0 → Fr n0 LUL → TUL.heap = hUL → One j3U → One j4U → n0 ≤ hUL.size → Exa Z hUL r0 oC0 → Fld Z hUL r0 oC0 "receivers" "I" (.int n) → Fld Z hUL r0 oC0 "outboxes" oC4 (.ref ob) → Fld Z hUL r0 oC0 "recipients" oC6 (.ref rv) → Fld Z hUL r0 oC0 "delivered" "I" (.int dl) → Fld Z hUL r0 oC0 "senders" "[I" vS → Fld Z hUL r0 oC0 "messages" "[J" vM → Fld Z hUL r0 oC0 "first" "[I" (.ref fa) → Fld Z hUL r0 oC0 "end" "[I" (.ref ea) → own_Oa Z hUL ob oC2 v0 v1 → own_Box Z hUL n0 v0 Da La → own_Box Z hUL n0 v1 Db Lb → Exa Z hUL rv oC1 → Fld Z hUL rv oC1 "words" "[J" (.ref wd) → Fld Z hUL rv oC1 "held" "[Z" (.ref hd) → Fld Z hUL rv oC1 "blocks" oC5 (.ref il) → Fld Z hUL rv oC1 "sorted" "Z" (.int 1) → Exa Z hUL il oC3 → Fld Z hUL il oC3 "indices" "[I" (.ref ix) → Fld Z hUL il oC3 "size" "I" (.int kz) → own_Arf Z hUL ix .int (16 : Int32) (fun i => .int (fi i)) → own_Arf Z hUL wd .long (nb * (16 : Int32)) (fun i => .long (fw i)) → own_Arf Z hUL hd .boolean nb (fun i => .int (fh i)) → own_Arf Z hUL fa .int n (fun i => .int (fF i)) → own_Arf Z hUL ea .int n (fun i => .int (eF i)) → own_Fin p.tables e below s (Qrm11u Z r0 p1 n M h0 n0) rm11f_room.cells rm11f_room.slots (TUL.setTop (mkF m 2 #[oR r0, oI p1, oI i, j3U, j4U, oU, oU, oU, oU, oU, oU] [])) := by
  intro kU
  induction kU using Nat.strongRecOn with
  | _ kU ihU =>
   intro i fF eF TUL LUL hUL j3U j4U hkU hZI XUL NUL eUL hj3U hj4U ZUL E_r0_UL F_receivers_r0_UL F_outboxes_r0_UL F_recipients_r0_UL F_delivered_r0_UL F_senders_r0_UL F_messages_r0_UL F_first_r0_UL F_end_r0_UL O_ob_UL B_0_UL B_1_UL E_rv_UL F_words_rv_UL F_held_rv_UL F_blocks_rv_UL F_sorted_rv_UL E_il_UL F_indices_il_UL F_size_il_UL A_ix_UL A_wd_UL A_hd_UL A_fa_UL A_ea_UL
   show oF (TUL.setTop (mkF m 2 #[oR r0, oI p1, oI i, j3U, j4U, oU, oU, oU, oU, oU, oU] []))
   refine own_go (fun _ k => XS.iloadN XUL.here hx rfl (hb hby d11_2) rfl (XS.aloadN XUL.here hx rfl (hb hby d11_3) rfl rfl k)) ?_
   obtain ⟨T1, X1, e1, st1⟩ := getF XUL hx hZ hown (host := "") (Or.inl (oW hw 62 rfl)) Via.refl eUL F_recipients_r0_UL (g := (mkF m 4 #[oR r0, oI p1, oI i, j3U, j4U, oU, oU, oU, oU, oU, oU] [(.ref r0), (.int i)])) rfl rfl (hb hby d11_4)
   refine own_go (fun tg k => st1 tg k) ?_
   have cq := isOf hZ e1 E_rv_UL
   obtain ⟨cq2, kq2, q2a, q2b, q2c⟩ := cq
   have cq := X1.virtualBack hx (y := oM11) (z := oM11) hown (mvT hZ (oW hw 103 rfl)) (mvT hZ (oW hw 104 rfl)) (notFace_of_selects (args := #[]) (mvT hZ (oW hw 106 rfl))) (mvT hZ (oW hw 106 rfl)) (mvT hZ (oW hw 105 rfl)) (by decide) (backOf (W := 1) (rm12 l Z a0 hw [] rv il kz hUL n0 ZUL F_blocks_rv_UL E_il_UL F_size_il_UL) hZ (oW hw 107 rfl) (oW hw 33 rfl) (by decide) (by decide)) q2a q2c (g := (mkF m 7 #[oR r0, oI p1, oI i, j3U, j4U, oU, oU, oU, oU, oU, oU] [(.ref rv), (.int i)])) rfl (by rw [hml]; rfl) (Steps.refl _) (argsL := []) (rest := [(.int i)]) (lenOf own_pd194 rfl) rfl (by show 2 * 0 + _ ≤ _; exact Nat.le_of_eq rfl) (hb hby d11_7) (fun _ _ => ⟨rfl, e1, (by decide : 0 + 0 ≤ _), (by decide : 0 + 0 ≤ _)⟩)
   obtain ⟨_, _, ⟨T2, L2, k2, n2⟩, -, X2, ⟨Lc2, hQ2, l2, y2, z2⟩, st2⟩ := cq
   dsimp only [Pt.U, Pt.locs, Pt.cells, Pt.slots] at X2 l2 y2 z2 st2 hQ2
   replace y2 : 0 = k2 := y2.symm
   replace z2 : 0 = n2 := z2.symm
   subst y2 z2
   obtain ⟨rfl, N2q, e2⟩ := hQ2
   have N2 : Fr n0 L2 := by rw [l2]; exact Fr.app NUL N2q
   refine own_go (fun tg k => st2.trans k) ?_
   show oF (T2.setTop (mkF m 10 #[oR r0, oI p1, oI i, j3U, j4U, oU, oU, oU, oU, oU, oU] [(.int kz), (.int i)]))
   by_cases hc3 : i < kz
   ·refine own_go (fun _ k => XS.icmpNo X2.here hx rfl (hb hby d11_10) rfl (tlt hc3).2.1 (XS.aloadN X2.here hx rfl (hb hby d11_13) rfl rfl k)) ?_
    obtain ⟨T4, X4, e4, st4⟩ := getF X2 hx hZ hown (host := "") (Or.inl (oW hw 62 rfl)) Via.refl e2 F_recipients_r0_UL (g := (mkF m 14 #[oR r0, oI p1, oI i, j3U, j4U, oU, oU, oU, oU, oU, oU] [(.ref r0)])) rfl rfl (hb hby d11_14)
    refine own_go (fun tg k => st4 tg k) ?_
    refine own_go (fun _ k => XS.iloadN X4.here hx rfl (hb hby d11_17) rfl k) ?_
    have cq := isOf hZ e4 E_rv_UL
    obtain ⟨cq5, kq5, q5a, q5b, q5c⟩ := cq
    have cq := X4.virtualBack hx (y := oM12) (z := oM12) hown (mvT hZ (oW hw 155 rfl)) (mvT hZ (oW hw 156 rfl)) (notFace_of_selects (args := #[]) (mvT hZ (oW hw 158 rfl))) (mvT hZ (oW hw 158 rfl)) (mvT hZ (oW hw 157 rfl)) (by decide) (backOf (W := 0) (rm20 l Z a0 hw [] rv i il ix fi hUL n0 ZUL F_sorted_rv_UL F_blocks_rv_UL E_il_UL F_indices_il_UL A_ix_UL (own_i16B hZI.1 (own_ZIj hZI))) hZ (oW hw 159 rfl) (oW hw 33 rfl) (by decide) (by decide)) q5a q5c (g := (mkF m 18 #[oR r0, oI p1, oI i, j3U, j4U, oU, oU, oU, oU, oU, oU] [(.int i), (.ref rv)])) rfl (by rw [hml]; rfl) (Steps.refl _) (argsL := [(.int i)]) (rest := []) (lenOf own_pd90 rfl) rfl (by show 2 * 0 + _ ≤ _; exact Nat.le_of_eq rfl) (hb hby d11_18) (fun _ _ => ⟨rfl, e4, (by decide : 0 + 0 ≤ _), (by decide : 0 + 0 ≤ _)⟩)
    obtain ⟨_, _, ⟨T5, L5, k5, n5⟩, -, X5, ⟨Lc5, hQ5, l5, y5, z5⟩, st5⟩ := cq
    dsimp only [Pt.U, Pt.locs, Pt.cells, Pt.slots] at X5 l5 y5 z5 st5 hQ5
    replace y5 : 0 = k5 := y5.symm
    replace z5 : 0 = n5 := z5.symm
    subst y5 z5
    obtain ⟨rfl, N5q, e5⟩ := hQ5
    have N5 : Fr n0 L5 := by rw [l5]; exact Fr.app N2 N5q
    refine own_go (fun tg k => st5.trans k) ?_
    show oF (T5.setTop (mkF m 21 #[oR r0, oI p1, oI i, j3U, j4U, oU, oU, oU, oU, oU, oU] [(.int (fi i.toNatClampNeg))]))
    refine own_go (fun _ k => XS.istoreNS X5.here hx rfl (hb hby d11_21) rfl rfl hj3U (XS.iloadN X5.here hx rfl (hb hby d11_22) rfl (XS.aloadN X5.here hx rfl (hb hby d11_23) rfl rfl k))) ?_
    obtain ⟨T6, X6, e6, st6⟩ := getF X5 hx hZ hown (host := "") (Or.inl (oW hw 23 rfl)) Via.refl e5 F_receivers_r0_UL (g := (mkF m 24 #[oR r0, oI p1, oI i, .val (.int (fi i.toNatClampNeg)), j4U, oU, oU, oU, oU, oU, oU] [(.ref r0), (.int (fi i.toNatClampNeg))])) rfl rfl (hb hby d11_24)
    refine own_go (fun tg k => st6 tg k) ?_
    have cq := Jvm.LawKit.callS X6 hx (y := oM2) hown (mvT hZ (oW hw 184 rfl)) (mvT hZ (oW hw 185 rfl)) (mvT hZ (oW hw 36 rfl)) (mvT hZ (oW hw 186 rfl)) (by decide) (backOf (W := 0) (rm26 l Z a0 hw [] (fi i.toNatClampNeg) n hUL n0 ZUL) hZ (oW hw 186 rfl) (oW hw 36 rfl) (by decide) (by decide)) (g := (mkF m 27 #[oR r0, oI p1, oI i, .val (.int (fi i.toNatClampNeg)), j4U, oU, oU, oU, oU, oU, oU] [(.int n), (.int (fi i.toNatClampNeg))])) rfl (by rw [hml]; rfl) (argsL := [(.int (fi i.toNatClampNeg)), (.int n)]) (rest := []) (lenOf own_pd696 rfl) rfl (by show 2 * 0 + _ ≤ _; exact Nat.le_of_eq rfl) (hb hby d11_27) (fun _ _ => ⟨rfl, e6, (by decide : 0 + 0 ≤ _), (by decide : 0 + 0 ≤ _)⟩)
    obtain ⟨_, _, ⟨T7, L7, k7, n7⟩, -, X7, ⟨Lc7, hQ7, l7, y7, z7⟩, st7⟩ := cq
    dsimp only [Pt.U, Pt.locs, Pt.cells, Pt.slots] at X7 l7 y7 z7 st7 hQ7
    replace y7 : 0 = k7 := y7.symm
    replace z7 : 0 = n7 := z7.symm
    subst y7 z7
    obtain ⟨rfl, N7q, e7⟩ := hQ7
    have N7 : Fr n0 L7 := by rw [l7]; exact Fr.app N5 N7q
    refine own_go (fun tg k => st7 tg k) ?_
    show oF (T7.setTop (mkF m 30 #[oR r0, oI p1, oI i, .val (.int (fi i.toNatClampNeg)), j4U, oU, oU, oU, oU, oU, oU] [(.int (own_f26 (fi i.toNatClampNeg) n))]))
    refine own_go (fun _ k => XS.istoreS X7.here hx rfl (hb hby d11_30) rfl rfl hj4U (XS.aloadN X7.here hx rfl (hb hby d11_32) rfl rfl k)) ?_
    obtain ⟨T8, X8, e8, st8⟩ := getF X7 hx hZ hown (host := "") (Or.inl (oW hw 133 rfl)) Via.refl e7 F_first_r0_UL (g := (mkF m 33 #[oR r0, oI p1, oI i, .val (.int (fi i.toNatClampNeg)), .val (.int (own_f26 (fi i.toNatClampNeg) n)), oU, oU, oU, oU, oU, oU] [(.ref r0)])) rfl rfl (hb hby d11_33)
    refine own_go (fun tg k => st8 tg k) ?_
    refine own_go (fun _ k => XS.iloadN X8.here hx rfl (hb hby d11_36) rfl (XS.sipush X8.here hx rfl (hb hby d11_37) (XS.imul X8.here hx rfl (hb hby d11_40) rfl (XS.iload X8.here hx rfl (hb hby d11_41) rfl (XS.iconst X8.here hx rfl (hb hby d11_43) k))))) ?_
    have cq := Jvm.LawKit.callS X8 hx (y := oM14) hown (mvT hZ (oW hw 192 rfl)) (mvT hZ (oW hw 193 rfl)) (mvT hZ (oW hw 194 rfl)) (mvT hZ (oW hw 195 rfl)) (by decide) (backOf (W := 0) (rm28 l Z a0 hw [] fa ((fi i.toNatClampNeg) * (1024 : Int32)) (own_f26 (fi i.toNatClampNeg) n) (0 : Int32) n fF hUL n0 ZUL A_fa_UL ge_fa (own_ZIf hn hm hZI hc3)) hZ (oW hw 195 rfl) (oW hw 194 rfl) (by decide) (by decide)) (g := (mkF m 44 #[oR r0, oI p1, oI i, .val (.int (fi i.toNatClampNeg)), .val (.int (own_f26 (fi i.toNatClampNeg) n)), oU, oU, oU, oU, oU, oU] [(.int 0), (.int (own_f26 (fi i.toNatClampNeg) n)), (.int ((fi i.toNatClampNeg) * (1024 : Int32))), (.ref fa)])) rfl (by rw [hml]; rfl) (argsL := [(.ref fa), (.int ((fi i.toNatClampNeg) * (1024 : Int32))), (.int (own_f26 (fi i.toNatClampNeg) n)), (.int 0)]) (rest := []) (lenOf own_pd454 rfl) rfl (by show 2 * 0 + _ ≤ _; exact Nat.le_of_eq rfl) (hb hby d11_44) (fun _ _ => ⟨rfl, e8, (by decide : 0 + 0 ≤ _), (by decide : 0 + 0 ≤ _)⟩)
    obtain ⟨_, _, ⟨T9, L9, k9, n9⟩, -, X9, ⟨Lc9, hQ9, l9, y9, z9⟩, st9⟩ := cq
    dsimp only [Pt.U, Pt.locs, Pt.cells, Pt.slots] at X9 l9 y9 z9 st9 hQ9
    replace y9 : 0 = k9 := y9.symm
    replace z9 : 0 = n9 := z9.symm
    subst y9 z9
    obtain ⟨rfl, N9q, Kq9, A_fa_9⟩ := hQ9
    have N9 : Fr n0 L9 := by rw [l9]; exact Fr.app N7 N9q
    have E_r0_9 := E_r0_UL.keep Kq9
    have u9_r0 := (ninS (own_ne_arf E_r0_UL (oW hw 7 rfl) A_fa_UL) nin0)
    have F_receivers_r0_9 := F_receivers_r0_UL.keep Kq9 u9_r0
    have F_outboxes_r0_9 := F_outboxes_r0_UL.keep Kq9 u9_r0
    have F_recipients_r0_9 := F_recipients_r0_UL.keep Kq9 u9_r0
    have F_delivered_r0_9 := F_delivered_r0_UL.keep Kq9 u9_r0
    have F_senders_r0_9 := F_senders_r0_UL.keep Kq9 u9_r0
    have F_messages_r0_9 := F_messages_r0_UL.keep Kq9 u9_r0
    have F_first_r0_9 := F_first_r0_UL.keep Kq9 u9_r0
    have F_end_r0_9 := F_end_r0_UL.keep Kq9 u9_r0
    have O_ob_9 := O_ob_UL.keep Kq9 (ninS (Ne.symm (own_ne_oarf A_fa_UL O_ob_UL (by decide))) nin0)
    have B_0_9 := B_0_UL.keep Kq9 (allS nb_fa_0 all0)
    have B_1_9 := B_1_UL.keep Kq9 (allS nb_fa_1 all0)
    have E_rv_9 := E_rv_UL.keep Kq9
    have u9_rv := (ninS (own_ne_arf E_rv_UL (oW hw 32 rfl) A_fa_UL) nin0)
    have F_words_rv_9 := F_words_rv_UL.keep Kq9 u9_rv
    have F_held_rv_9 := F_held_rv_UL.keep Kq9 u9_rv
    have F_blocks_rv_9 := F_blocks_rv_UL.keep Kq9 u9_rv
    have F_sorted_rv_9 := F_sorted_rv_UL.keep Kq9 u9_rv
    have E_il_9 := E_il_UL.keep Kq9
    have u9_il := (ninS (own_ne_arf E_il_UL (oW hw 43 rfl) A_fa_UL) nin0)
    have F_indices_il_9 := F_indices_il_UL.keep Kq9 u9_il
    have F_size_il_9 := F_size_il_UL.keep Kq9 u9_il
    have A_ix_9 := A_ix_UL.keep Kq9 (ninS ne_ix_fa nin0)
    have A_wd_9 := A_wd_UL.keep Kq9 (ninS (own_ne_ty A_wd_UL A_fa_UL (by decide)) nin0)
    have A_hd_9 := A_hd_UL.keep Kq9 (ninS (own_ne_ty A_hd_UL A_fa_UL (by decide)) nin0)
    have A_ea_9 := A_ea_UL.keep Kq9 (ninS (Ne.symm ne_fa_ea) nin0)
    have Z9 : n0 ≤ T9.heap.size := Nat.le_trans ZUL Kq9.1
    refine own_go (fun tg k => st9 tg k) ?_
    show oF (T9.setTop (mkF m 47 #[oR r0, oI p1, oI i, .val (.int (fi i.toNatClampNeg)), .val (.int (own_f26 (fi i.toNatClampNeg) n)), oU, oU, oU, oU, oU, oU] []))
    refine own_go (fun _ k => XS.aloadN X9.here hx rfl (hb hby d11_47) rfl rfl k) ?_
    obtain ⟨T10, X10, e10, st10⟩ := getF X9 hx hZ hown (host := "") (Or.inl (oW hw 69 rfl)) Via.refl rfl F_end_r0_9 (g := (mkF m 48 #[oR r0, oI p1, oI i, .val (.int (fi i.toNatClampNeg)), .val (.int (own_f26 (fi i.toNatClampNeg) n)), oU, oU, oU, oU, oU, oU] [(.ref r0)])) rfl rfl (hb hby d11_48)
    refine own_go (fun tg k => st10 tg k) ?_
    refine own_go (fun _ k => XS.iloadN X10.here hx rfl (hb hby d11_51) rfl (XS.sipush X10.here hx rfl (hb hby d11_52) (XS.imul X10.here hx rfl (hb hby d11_55) rfl (XS.iload X10.here hx rfl (hb hby d11_56) rfl (XS.iconst X10.here hx rfl (hb hby d11_58) k))))) ?_
    have cq := Jvm.LawKit.callS X10 hx (y := oM14) hown (mvT hZ (oW hw 192 rfl)) (mvT hZ (oW hw 193 rfl)) (mvT hZ (oW hw 194 rfl)) (mvT hZ (oW hw 195 rfl)) (by decide) (backOf (W := 0) (rm28 l Z a0 hw [] ea ((fi i.toNatClampNeg) * (1024 : Int32)) (own_f26 (fi i.toNatClampNeg) n) (0 : Int32) n eF T9.heap n0 Z9 A_ea_9 ge_ea (own_ZIf hn hm hZI hc3)) hZ (oW hw 195 rfl) (oW hw 194 rfl) (by decide) (by decide)) (g := (mkF m 59 #[oR r0, oI p1, oI i, .val (.int (fi i.toNatClampNeg)), .val (.int (own_f26 (fi i.toNatClampNeg) n)), oU, oU, oU, oU, oU, oU] [(.int 0), (.int (own_f26 (fi i.toNatClampNeg) n)), (.int ((fi i.toNatClampNeg) * (1024 : Int32))), (.ref ea)])) rfl (by rw [hml]; rfl) (argsL := [(.ref ea), (.int ((fi i.toNatClampNeg) * (1024 : Int32))), (.int (own_f26 (fi i.toNatClampNeg) n)), (.int 0)]) (rest := []) (lenOf own_pd454 rfl) rfl (by show 2 * 0 + _ ≤ _; exact Nat.le_of_eq rfl) (hb hby d11_59) (fun _ _ => ⟨rfl, e10, (by decide : 0 + 0 ≤ _), (by decide : 0 + 0 ≤ _)⟩)
    obtain ⟨_, _, ⟨T11, L11, k11, n11⟩, -, X11, ⟨Lc11, hQ11, l11, y11, z11⟩, st11⟩ := cq
    dsimp only [Pt.U, Pt.locs, Pt.cells, Pt.slots] at X11 l11 y11 z11 st11 hQ11
    replace y11 : 0 = k11 := y11.symm
    replace z11 : 0 = n11 := z11.symm
    subst y11 z11
    obtain ⟨rfl, N11q, Kq11, A_ea_11⟩ := hQ11
    have N11 : Fr n0 L11 := by rw [l11]; exact Fr.app N9 N11q
    have E_r0_11 := E_r0_9.keep Kq11
    have u11_r0 := (ninS (own_ne_arf E_r0_9 (oW hw 7 rfl) A_ea_9) nin0)
    have F_receivers_r0_11 := F_receivers_r0_9.keep Kq11 u11_r0
    have F_outboxes_r0_11 := F_outboxes_r0_9.keep Kq11 u11_r0
    have F_recipients_r0_11 := F_recipients_r0_9.keep Kq11 u11_r0
    have F_delivered_r0_11 := F_delivered_r0_9.keep Kq11 u11_r0
    have F_senders_r0_11 := F_senders_r0_9.keep Kq11 u11_r0
    have F_messages_r0_11 := F_messages_r0_9.keep Kq11 u11_r0
    have F_first_r0_11 := F_first_r0_9.keep Kq11 u11_r0
    have F_end_r0_11 := F_end_r0_9.keep Kq11 u11_r0
    have O_ob_11 := O_ob_9.keep Kq11 (ninS (Ne.symm (own_ne_oarf A_ea_9 O_ob_9 (by decide))) nin0)
    have B_0_11 := B_0_9.keep Kq11 (allS nb_ea_0 all0)
    have B_1_11 := B_1_9.keep Kq11 (allS nb_ea_1 all0)
    have E_rv_11 := E_rv_9.keep Kq11
    have u11_rv := (ninS (own_ne_arf E_rv_9 (oW hw 32 rfl) A_ea_9) nin0)
    have F_words_rv_11 := F_words_rv_9.keep Kq11 u11_rv
    have F_held_rv_11 := F_held_rv_9.keep Kq11 u11_rv
    have F_blocks_rv_11 := F_blocks_rv_9.keep Kq11 u11_rv
    have F_sorted_rv_11 := F_sorted_rv_9.keep Kq11 u11_rv
    have E_il_11 := E_il_9.keep Kq11
    have u11_il := (ninS (own_ne_arf E_il_9 (oW hw 43 rfl) A_ea_9) nin0)
    have F_indices_il_11 := F_indices_il_9.keep Kq11 u11_il
    have F_size_il_11 := F_size_il_9.keep Kq11 u11_il
    have A_ix_11 := A_ix_9.keep Kq11 (ninS ne_ix_ea nin0)
    have A_wd_11 := A_wd_9.keep Kq11 (ninS (own_ne_ty A_wd_9 A_ea_9 (by decide)) nin0)
    have A_hd_11 := A_hd_9.keep Kq11 (ninS (own_ne_ty A_hd_9 A_ea_9 (by decide)) nin0)
    have A_fa_11 := A_fa_9.keep Kq11 (ninS ne_fa_ea nin0)
    have Z11 : n0 ≤ T11.heap.size := Nat.le_trans Z9 Kq11.1
    refine own_go (fun tg k => st11 tg k) ?_
    show oF (T11.setTop (mkF m 62 #[oR r0, oI p1, oI i, .val (.int (fi i.toNatClampNeg)), .val (.int (own_f26 (fi i.toNatClampNeg) n)), oU, oU, oU, oU, oU, oU] []))
    refine own_go (fun _ k => XS.iinc X11.here hx rfl (hb hby d11_62) rfl (l' := #[oR r0, oI p1, .val (.int (i + (1 : Int32))), .val (.int (fi i.toNatClampNeg)), .val (.int (own_f26 (fi i.toNatClampNeg) n)), oU, oU, oU, oU, oU, oU]) rfl (XS.goto X11.here hx rfl (pc0 := 65) (pc' := 2) rfl (hb hby d11_65) (by decide) (by decide) k)) ?_
    show oF (T11.setTop (mkF m 2 #[oR r0, oI p1, .val (.int (i + (1 : Int32))), .val (.int (fi i.toNatClampNeg)), .val (.int (own_f26 (fi i.toNatClampNeg) n)), oU, oU, oU, oU, oU, oU] []))
    exact ihU _ (Nat.lt_of_lt_of_eq (own_ZIs hn hm hZI hc3).2 hkU.symm) ((i + (1 : Int32))) ((own_fil fF ((fi i.toNatClampNeg) * (1024 : Int32)) (own_f26 (fi i.toNatClampNeg) n) (0 : Int32))) ((own_fil eF ((fi i.toNatClampNeg) * (1024 : Int32)) (own_f26 (fi i.toNatClampNeg) n) (0 : Int32))) T11 _ T11.heap (.val (.int (fi i.toNatClampNeg))) (.val (.int (own_f26 (fi i.toNatClampNeg) n))) rfl (own_ZIs hn hm hZI hc3).1 (own_mono X11 (by decide) (by decide)) N11 rfl (One.val rfl) (One.val rfl) Z11 E_r0_11 F_receivers_r0_11 F_outboxes_r0_11 F_recipients_r0_11 F_delivered_r0_11 F_senders_r0_11 F_messages_r0_11 F_first_r0_11 F_end_r0_11 O_ob_11 B_0_11 B_1_11 E_rv_11 F_words_rv_11 F_held_rv_11 F_blocks_rv_11 F_sorted_rv_11 E_il_11 F_indices_il_11 F_size_il_11 A_ix_11 A_wd_11 A_hd_11 A_fa_11 A_ea_11
   ·refine own_go (fun _ k => XS.icmpYes X2.here hx rfl (pc0 := 10) (pc' := 68) rfl (hb hby d11_10) rfl (flt hc3).2.1 (by decide) (by decide) k) ?_
    show oF (T2.setTop (mkF m 68 #[oR r0, oI p1, oI i, j3U, j4U, oU, oU, oU, oU, oU, oU] []))
    refine own_go (fun _ k => XS.aloadN X2.here hx rfl (hb hby d11_68) rfl rfl k) ?_
    obtain ⟨T12, X12, e12, st12⟩ := getF X2 hx hZ hown (host := "") (Or.inl (oW hw 62 rfl)) Via.refl e2 F_recipients_r0_UL (g := (mkF m 69 #[oR r0, oI p1, oI i, j3U, j4U, oU, oU, oU, oU, oU, oU] [(.ref r0)])) rfl rfl (hb hby d11_69)
    refine own_go (fun tg k => st12 tg k) ?_
    have cq := isOf hZ e12 E_rv_UL
    obtain ⟨cq13, kq13, q13a, q13b, q13c⟩ := cq
    have cq := X12.virtualBack hx (y := oM16) (z := oM16) hown (mvT hZ (oW hw 115 rfl)) (mvT hZ (oW hw 116 rfl)) (notFace_of_selects (args := #[]) (mvT hZ (oW hw 118 rfl))) (mvT hZ (oW hw 118 rfl)) (mvT hZ (oW hw 117 rfl)) (by decide) (backOf (W := 0) (rm14u l Z a0 hw [] rv wd hd il ix nb n kz M fi fw fh hUL n0 ZUL E_rv_UL F_words_rv_UL F_held_rv_UL F_blocks_rv_UL F_sorted_rv_UL E_il_UL F_indices_il_UL F_size_il_UL A_ix_UL A_wd_UL A_hd_UL ge_rv ge_wd ge_hd ge_il ge_ix hBS hn hm) hZ (oW hw 119 rfl) (oW hw 33 rfl) (by decide) (by decide)) q13a q13c (g := (mkF m 72 #[oR r0, oI p1, oI i, j3U, j4U, oU, oU, oU, oU, oU, oU] [(.ref rv)])) rfl (by rw [hml]; rfl) (Steps.refl _) (argsL := []) (rest := []) (lenOf own_pd158 rfl) rfl (by show 2 * 0 + _ ≤ _; exact Nat.le_of_eq rfl) (hb hby d11_72) (fun _ _ => ⟨rfl, e12, (by decide : 0 + 0 ≤ _), (by decide : 0 + 0 ≤ _)⟩)
    obtain ⟨_, _, ⟨T13, L13, k13, n13⟩, -, X13, ⟨Lc13, hQ13, l13, y13, z13⟩, st13⟩ := cq
    dsimp only [Pt.U, Pt.locs, Pt.cells, Pt.slots] at X13 l13 y13 z13 st13 hQ13
    replace y13 : 0 = k13 := y13.symm
    replace z13 : 0 = n13 := z13.symm
    subst y13 z13
    obtain ⟨wx13, hx13, rfl, N13q, Kq13, A_wd_13, A_hd_13⟩ := hQ13
    have N13 : Fr n0 L13 := by rw [l13]; exact Fr.app N2 N13q
    have E_r0_13 := E_r0_UL.keep Kq13
    have u13_r0 := (ninS (ne_exa E_r0_UL E_rv_UL (by decide)) (ninS (own_ne_arf E_r0_UL (oW hw 7 rfl) A_wd_UL) (ninS (own_ne_arf E_r0_UL (oW hw 7 rfl) A_hd_UL) (ninS (ne_exa E_r0_UL E_il_UL (by decide)) nin0))))
    have F_receivers_r0_13 := F_receivers_r0_UL.keep Kq13 u13_r0
    have F_outboxes_r0_13 := F_outboxes_r0_UL.keep Kq13 u13_r0
    have F_recipients_r0_13 := F_recipients_r0_UL.keep Kq13 u13_r0
    have F_delivered_r0_13 := F_delivered_r0_UL.keep Kq13 u13_r0
    have F_senders_r0_13 := F_senders_r0_UL.keep Kq13 u13_r0
    have F_messages_r0_13 := F_messages_r0_UL.keep Kq13 u13_r0
    have F_first_r0_13 := F_first_r0_UL.keep Kq13 u13_r0
    have F_end_r0_13 := F_end_r0_UL.keep Kq13 u13_r0
    have O_ob_13 := O_ob_UL.keep Kq13 (ninS (Ne.symm (own_ne_oa E_rv_UL (oW hw 32 rfl) O_ob_UL)) (ninS (Ne.symm (own_ne_oarf A_wd_UL O_ob_UL (by decide))) (ninS (Ne.symm (own_ne_oarf A_hd_UL O_ob_UL (by decide))) (ninS (Ne.symm (own_ne_oa E_il_UL (oW hw 43 rfl) O_ob_UL)) nin0))))
    have B_0_13 := B_0_UL.keep Kq13 (allS nb_rv_0 (allS nb_wd_0 (allS nb_hd_0 (allS nb_il_0 all0))))
    have B_1_13 := B_1_UL.keep Kq13 (allS nb_rv_1 (allS nb_wd_1 (allS nb_hd_1 (allS nb_il_1 all0))))
    have E_rv_13 := E_rv_UL.keep Kq13
    have E_il_13 := E_il_UL.keep Kq13
    have A_ix_13 := A_ix_UL.keep Kq13 (ninS (Ne.symm (own_ne_arf E_rv_UL (oW hw 32 rfl) A_ix_UL)) (ninS (own_ne_ty A_ix_UL A_wd_UL (by decide)) (ninS (own_ne_ty A_ix_UL A_hd_UL (by decide)) (ninS (Ne.symm (own_ne_arf E_il_UL (oW hw 43 rfl) A_ix_UL)) nin0))))
    have A_fa_13 := A_fa_UL.keep Kq13 (ninS (Ne.symm (own_ne_arf E_rv_UL (oW hw 32 rfl) A_fa_UL)) (ninS (own_ne_ty A_fa_UL A_wd_UL (by decide)) (ninS (own_ne_ty A_fa_UL A_hd_UL (by decide)) (ninS (Ne.symm (own_ne_arf E_il_UL (oW hw 43 rfl) A_fa_UL)) nin0))))
    have A_ea_13 := A_ea_UL.keep Kq13 (ninS (Ne.symm (own_ne_arf E_rv_UL (oW hw 32 rfl) A_ea_UL)) (ninS (own_ne_ty A_ea_UL A_wd_UL (by decide)) (ninS (own_ne_ty A_ea_UL A_hd_UL (by decide)) (ninS (Ne.symm (own_ne_arf E_il_UL (oW hw 43 rfl) A_ea_UL)) nin0))))
    have Z13 : n0 ≤ T13.heap.size := Nat.le_trans ZUL Kq13.1
    refine own_go (fun tg k => st13.trans k) ?_
    show oF (T13.setTop (mkF m 75 #[oR r0, oI p1, oI i, j3U, j4U, oU, oU, oU, oU, oU, oU] []))
    refine own_go (fun _ k => XS.lconst X13.here hx rfl (hb hby d11_75) (XS.lstoreN X13.here hx rfl (hb hby d11_76) rfl (l' := #[oR r0, oI p1, .val (.long (0 : Int64)), oS, j4U, oU, oU, oU, oU, oU, oU]) (by rcases hj3U with rfl | ⟨w, rfl, q⟩; exact rfl; cases w <;> first | rfl | cases q) (XS.aloadN X13.here hx rfl (hb hby d11_77) rfl rfl k))) ?_
    obtain ⟨T14, X14, e14, st14⟩ := getF X13 hx hZ hown (host := "") (Or.inl (oW hw 29 rfl)) Via.refl rfl F_outboxes_r0_13 (g := (mkF m 78 #[oR r0, oI p1, .val (.long (0 : Int64)), oS, j4U, oU, oU, oU, oU, oU, oU] [(.ref r0)])) rfl rfl (hb hby d11_78)
    refine own_go (fun tg k => st14 tg k) ?_
    refine own_go (fun _ k => XS.astoreS X14.here hx rfl (hb hby d11_81) rfl rfl rfl rfl hj4U (XS.aload X14.here hx rfl (hb hby d11_83) rfl rfl k)) ?_
    refine own_go (fun tg k => own_oalen X14 hx hZ e14 O_ob_13 (g := (mkF m 85 #[oR r0, oI p1, .val (.long (0 : Int64)), oS, oR ob, oU, oU, oU, oU, oU, oU] [(.ref ob)])) rfl rfl (hb hby d11_85) tg k) ?_
    refine own_go (fun _ k => XS.istore X14.here hx rfl (hb hby d11_86) rfl (l' := #[oR r0, oI p1, .val (.long (0 : Int64)), oS, oR ob, oI 2, oU, oU, oU, oU, oU]) rfl (XS.iconst X14.here hx rfl (hb hby d11_88) (XS.istore X14.here hx rfl (hb hby d11_89) rfl (l' := #[oR r0, oI p1, .val (.long (0 : Int64)), oS, oR ob, oI 2, oI 0, oU, oU, oU, oU]) rfl (XS.iload X14.here hx rfl (hb hby d11_91) rfl (XS.iload X14.here hx rfl (hb hby d11_93) rfl (XS.icmpNo X14.here hx rfl (hb hby d11_95) rfl (tlt (by decide)).2.1 (XS.aload X14.here hx rfl (hb hby d11_98) rfl rfl (XS.iload X14.here hx rfl (hb hby d11_100) rfl k)))))))) ?_
    refine own_go (fun tg k => own_oald X14 hx hZ e14 O_ob_13 (v := v0) (Or.inl ⟨rfl, rfl⟩) (g := (mkF m 102 #[oR r0, oI p1, .val (.long (0 : Int64)), oS, oR ob, oI 2, oI 0, oU, oU, oU, oU] [(.int 0), (.ref ob)])) rfl rfl (hb hby d11_102) tg k) ?_
    show oF (T14.setTop (mkF m 103 #[oR r0, oI p1, .val (.long (0 : Int64)), oS, oR ob, oI 2, oI 0, oU, oU, oU, oU] [v0]))
    have hk15 : ∀ (T15L : State) (L15L : List Loc) (h15L : Heap) (j715 : Slot), Stand p l e rm11f_room s m #[(.ref r0), (.int p1)] below meth c T15L L15L 0 0 → Fr n0 L15L → T15L.heap = h15L → One j715 → n0 ≤ h15L.size → Exa Z h15L r0 oC0 → Fld Z h15L r0 oC0 "receivers" "I" (.int n) → Fld Z h15L r0 oC0 "outboxes" oC4 (.ref ob) → Fld Z h15L r0 oC0 "recipients" oC6 (.ref rv) → Fld Z h15L r0 oC0 "delivered" "I" (.int dl) → Fld Z h15L r0 oC0 "senders" "[I" vS → Fld Z h15L r0 oC0 "messages" "[J" vM → Fld Z h15L r0 oC0 "first" "[I" (.ref fa) → Fld Z h15L r0 oC0 "end" "[I" (.ref ea) → own_Oa Z h15L ob oC2 v0 v1 → own_Box Z h15L n0 v0 Da La → own_Box Z h15L n0 v1 Db Lb → Exa Z h15L rv oC1 → Exa Z h15L il oC3 → own_Arf Z h15L ix .int (16 : Int32) (fun i => .int (fi i)) → own_Arf Z h15L wd .long (nb * (16 : Int32)) (fun i => .long (wx13 i)) → own_Arf Z h15L hd .boolean nb (fun i => .int (hx13 i)) → own_Arf Z h15L fa .int n (fun i => .int (fF i)) → own_Arf Z h15L ea .int n (fun i => .int (eF i)) → own_Fin p.tables e below s (Qrm11u Z r0 p1 n M h0 n0) rm11f_room.cells rm11f_room.slots (T15L.setTop (mkF m 123 #[oR r0, oI p1, .val (.long (own_tot (0 : Int64) La)), oS, oR ob, oI 2, oI 0, j715, oU, oU, oU] [])) := by
     intro T15L L15L h15L j715 X15L N15L e15L hj715 Z15L E_r0_15L F_receivers_r0_15L F_outboxes_r0_15L F_recipients_r0_15L F_delivered_r0_15L F_senders_r0_15L F_messages_r0_15L F_first_r0_15L F_end_r0_15L O_ob_15L B_0_15L B_1_15L E_rv_15L E_il_15L A_ix_15L A_wd_15L A_hd_15L A_fa_15L A_ea_15L
     show oF (T15L.setTop (mkF m 123 #[oR r0, oI p1, .val (.long (own_tot (0 : Int64) La)), oS, oR ob, oI 2, oI 0, j715, oU, oU, oU] []))
     refine own_go (fun _ k => XS.iinc X15L.here hx rfl (hb hby d11_123) rfl (l' := #[oR r0, oI p1, .val (.long (own_tot (0 : Int64) La)), oS, oR ob, oI 2, oI 1, j715, oU, oU, oU]) rfl k) ?_
     show oF (T15L.setTop (mkF m 126 #[oR r0, oI p1, .val (.long (own_tot (0 : Int64) La)), oS, oR ob, oI 2, oI 1, j715, oU, oU, oU] []))
     refine own_go (fun _ k => XS.goto X15L.here hx rfl (pc0 := 126) (pc' := 91) rfl (hb hby d11_126) (by decide) (by decide) (XS.iload X15L.here hx rfl (hb hby d11_91) rfl (XS.iload X15L.here hx rfl (hb hby d11_93) rfl (XS.icmpNo X15L.here hx rfl (hb hby d11_95) rfl (tlt (by decide)).2.1 (XS.aload X15L.here hx rfl (hb hby d11_98) rfl rfl (XS.iload X15L.here hx rfl (hb hby d11_100) rfl k)))))) ?_
     refine own_go (fun tg k => own_oald X15L hx hZ e15L O_ob_15L (v := v1) (Or.inr ⟨rfl, rfl⟩) (g := (mkF m 102 #[oR r0, oI p1, .val (.long (own_tot (0 : Int64) La)), oS, oR ob, oI 2, oI 1, j715, oU, oU, oU] [(.int 1), (.ref ob)])) rfl rfl (hb hby d11_102) tg k) ?_
     show oF (T15L.setTop (mkF m 103 #[oR r0, oI p1, .val (.long (own_tot (0 : Int64) La)), oS, oR ob, oI 2, oI 1, j715, oU, oU, oU] [v1]))
     have hk16 : ∀ (T16L : State) (L16L : List Loc) (h16L : Heap) (j716 : Slot), Stand p l e rm11f_room s m #[(.ref r0), (.int p1)] below meth c T16L L16L 0 0 → Fr n0 L16L → T16L.heap = h16L → One j716 → n0 ≤ h16L.size → Exa Z h16L r0 oC0 → Fld Z h16L r0 oC0 "receivers" "I" (.int n) → Fld Z h16L r0 oC0 "outboxes" oC4 (.ref ob) → Fld Z h16L r0 oC0 "recipients" oC6 (.ref rv) → Fld Z h16L r0 oC0 "delivered" "I" (.int dl) → Fld Z h16L r0 oC0 "senders" "[I" vS → Fld Z h16L r0 oC0 "messages" "[J" vM → Fld Z h16L r0 oC0 "first" "[I" (.ref fa) → Fld Z h16L r0 oC0 "end" "[I" (.ref ea) → own_Oa Z h16L ob oC2 v0 v1 → own_Box Z h16L n0 v0 Da La → own_Box Z h16L n0 v1 Db Lb → Exa Z h16L rv oC1 → Exa Z h16L il oC3 → own_Arf Z h16L ix .int (16 : Int32) (fun i => .int (fi i)) → own_Arf Z h16L wd .long (nb * (16 : Int32)) (fun i => .long (wx13 i)) → own_Arf Z h16L hd .boolean nb (fun i => .int (hx13 i)) → own_Arf Z h16L fa .int n (fun i => .int (fF i)) → own_Arf Z h16L ea .int n (fun i => .int (eF i)) → own_Fin p.tables e below s (Qrm11u Z r0 p1 n M h0 n0) rm11f_room.cells rm11f_room.slots (T16L.setTop (mkF m 123 #[oR r0, oI p1, .val (.long (own_tot (own_tot (0 : Int64) La) Lb)), oS, oR ob, oI 2, oI 1, j716, oU, oU, oU] [])) := by
      intro T16L L16L h16L j716 X16L N16L e16L hj716 Z16L E_r0_16L F_receivers_r0_16L F_outboxes_r0_16L F_recipients_r0_16L F_delivered_r0_16L F_senders_r0_16L F_messages_r0_16L F_first_r0_16L F_end_r0_16L O_ob_16L B_0_16L B_1_16L E_rv_16L E_il_16L A_ix_16L A_wd_16L A_hd_16L A_fa_16L A_ea_16L
      show oF (T16L.setTop (mkF m 123 #[oR r0, oI p1, .val (.long (own_tot (own_tot (0 : Int64) La) Lb)), oS, oR ob, oI 2, oI 1, j716, oU, oU, oU] []))
      refine own_go (fun _ k => XS.iinc X16L.here hx rfl (hb hby d11_123) rfl (l' := #[oR r0, oI p1, .val (.long (own_tot (own_tot (0 : Int64) La) Lb)), oS, oR ob, oI 2, oI 2, j716, oU, oU, oU]) rfl k) ?_
      show oF (T16L.setTop (mkF m 126 #[oR r0, oI p1, .val (.long (own_tot (own_tot (0 : Int64) La) Lb)), oS, oR ob, oI 2, oI 2, j716, oU, oU, oU] []))
      refine own_go (fun _ k => XS.goto X16L.here hx rfl (pc0 := 126) (pc' := 91) rfl (hb hby d11_126) (by decide) (by decide) (XS.iload X16L.here hx rfl (hb hby d11_91) rfl (XS.iload X16L.here hx rfl (hb hby d11_93) rfl (XS.icmpYes X16L.here hx rfl (pc0 := 95) (pc' := 129) rfl (hb hby d11_95) rfl (flt (by decide)).2.1 (by decide) (by decide) k)))) ?_
      show oF (T16L.setTop (mkF m 129 #[oR r0, oI p1, .val (.long (own_tot (own_tot (0 : Int64) La) Lb)), oS, oR ob, oI 2, oI 2, j716, oU, oU, oU] []))
      refine own_go (fun _ k => XS.lloadN X16L.here hx rfl (hb hby d11_129) rfl k) ?_
      refine own_go (fun _ k => X16L.ldc2Long hx hown (mvT hZ (oW hw 126 rfl)) (g := (mkF m 130 #[oR r0, oI p1, .val (.long (own_tot (own_tot (0 : Int64) La) Lb)), oS, oR ob, oI 2, oI 2, j716, oU, oU, oU] [(.long (own_tot (own_tot (0 : Int64) La) Lb))])) rfl (hb hby d11_130) _ k) ?_
      refine own_go (fun _ k => XS.lcmp X16L.here hx rfl (hb hby d11_133) rfl k) ?_
      show oF (T16L.setTop (mkF m 134 #[oR r0, oI p1, .val (.long (own_tot (own_tot (0 : Int64) La) Lb)), oS, oR ob, oI 2, oI 2, j716, oU, oU, oU] [(.int (lcmpW (own_tot (own_tot (0 : Int64) La) Lb) (2147483639 : Int64)))]))
      have hc134 : ¬ ((2147483639 : Int64) < (own_tot (own_tot (0 : Int64) La) Lb)) := (own_totm hl)
      refine own_go (fun _ k => XS.ifYes X16L.here hx rfl (pc0 := 134) (pc' := 156) rfl (hb hby d11_134) rfl ((if0 _ _).trans (flt (mt (lw_gt _ _).mp hc134)).2.2.2) (by decide) (by decide) (XS.aloadN X16L.here hx rfl (hb hby d11_156) rfl rfl (XS.lloadN X16L.here hx rfl (hb hby d11_157) rfl (XS.l2i X16L.here hx rfl (hb hby d11_158) rfl k)))) ?_
      show oF (T16L.setTop (mkF m 159 #[oR r0, oI p1, .val (.long (own_tot (own_tot (0 : Int64) La) Lb)), oS, oR ob, oI 2, oI 2, j716, oU, oU, oU] [(.int ((own_tot (own_tot (0 : Int64) La) Lb).toInt32)), (.ref r0)]))
      obtain ⟨T17, h17, X17, e17, W17, st17⟩ := putF X16L hx hZ hown (host := "") (Or.inl (oW hw 127 rfl)) Via.refl e16L F_delivered_r0_16L E_r0_16L (Or.inl (oW hw 128 rfl)) (oW hw 7 rfl) (ty := .int) (by decide) rfl rfl (g := (mkF m 159 #[oR r0, oI p1, .val (.long (own_tot (own_tot (0 : Int64) La) Lb)), oS, oR ob, oI 2, oI 2, j716, oU, oU, oU] [(.int ((own_tot (own_tot (0 : Int64) La) Lb).toInt32)), (.ref r0)])) rfl rfl (hb hby d11_159)
      have E_r0_17 := E_r0_16L.wr W17
      have F_receivers_r0_17 := F_receivers_r0_16L.other W17 (Or.inr (own_sn661 hw))
      have F_outboxes_r0_17 := F_outboxes_r0_16L.other W17 (Or.inr (own_sn662 hw))
      have F_recipients_r0_17 := F_recipients_r0_16L.other W17 (Or.inr (own_sn663 hw))
      have F_senders_r0_17 := F_senders_r0_16L.other W17 (Or.inr (own_sn664 hw))
      have F_messages_r0_17 := F_messages_r0_16L.other W17 (Or.inr (own_sn665 hw))
      have F_first_r0_17 := F_first_r0_16L.other W17 (Or.inr (own_sn666 hw))
      have F_end_r0_17 := F_end_r0_16L.other W17 (Or.inr (own_sn667 hw))
      have O_ob_17 := O_ob_16L.other W17 (Ne.symm (own_ne_oa E_r0_16L (oW hw 7 rfl) O_ob_16L))
      have B_0_17 := B_0_16L.other W17 nb_r0_0
      have B_1_17 := B_1_16L.other W17 nb_r0_1
      have E_rv_17 := E_rv_16L.wr W17
      have E_il_17 := E_il_16L.wr W17
      have A_ix_17 := A_ix_16L.other W17 (Ne.symm (own_ne_arf E_r0_16L (oW hw 7 rfl) A_ix_16L))
      have A_wd_17 := A_wd_16L.other W17 (Ne.symm (own_ne_arf E_r0_16L (oW hw 7 rfl) A_wd_16L))
      have A_hd_17 := A_hd_16L.other W17 (Ne.symm (own_ne_arf E_r0_16L (oW hw 7 rfl) A_hd_16L))
      have A_fa_17 := A_fa_16L.other W17 (Ne.symm (own_ne_arf E_r0_16L (oW hw 7 rfl) A_fa_16L))
      have A_ea_17 := A_ea_16L.other W17 (Ne.symm (own_ne_arf E_r0_16L (oW hw 7 rfl) A_ea_16L))
      have N17 := Fr.snoc X17 N16L ge_r0
      have Z17 : n0 ≤ h17.size := Nat.le_trans Z16L (Keep.of_wr W17).1
      have F_delivered_r0_17 := F_delivered_r0_16L.same W17
      refine own_go (fun tg k => st17 tg k) ?_
      refine own_go (fun _ k => XS.aloadN X17.here hx rfl (hb hby d11_162) rfl rfl (XS.aconstNull X17.here hx rfl (hb hby d11_163) k)) ?_
      obtain ⟨T18, h18, X18, e18, W18, st18⟩ := putF X17 hx hZ hown (host := "") (Or.inl (oW hw 129 rfl)) Via.refl e17 F_senders_r0_17 E_r0_17 (Or.inl (oW hw 130 rfl)) (oW hw 7 rfl) (ty := (.array .int)) (by decide) rfl rfl (g := (mkF m 164 #[oR r0, oI p1, .val (.long (own_tot (own_tot (0 : Int64) La) Lb)), oS, oR ob, oI 2, oI 2, j716, oU, oU, oU] [.null, (.ref r0)])) rfl rfl (hb hby d11_164)
      have E_r0_18 := E_r0_17.wr W18
      have F_receivers_r0_18 := F_receivers_r0_17.other W18 (Or.inr (own_sn668 hw))
      have F_outboxes_r0_18 := F_outboxes_r0_17.other W18 (Or.inr (own_sn669 hw))
      have F_recipients_r0_18 := F_recipients_r0_17.other W18 (Or.inr (own_sn670 hw))
      have F_delivered_r0_18 := F_delivered_r0_17.other W18 (Or.inr (own_sn671 hw))
      have F_messages_r0_18 := F_messages_r0_17.other W18 (Or.inr (own_sn672 hw))
      have F_first_r0_18 := F_first_r0_17.other W18 (Or.inr (own_sn673 hw))
      have F_end_r0_18 := F_end_r0_17.other W18 (Or.inr (own_sn674 hw))
      have O_ob_18 := O_ob_17.other W18 (Ne.symm (own_ne_oa E_r0_17 (oW hw 7 rfl) O_ob_17))
      have B_0_18 := B_0_17.other W18 nb_r0_0
      have B_1_18 := B_1_17.other W18 nb_r0_1
      have E_rv_18 := E_rv_17.wr W18
      have E_il_18 := E_il_17.wr W18
      have A_ix_18 := A_ix_17.other W18 (Ne.symm (own_ne_arf E_r0_17 (oW hw 7 rfl) A_ix_17))
      have A_wd_18 := A_wd_17.other W18 (Ne.symm (own_ne_arf E_r0_17 (oW hw 7 rfl) A_wd_17))
      have A_hd_18 := A_hd_17.other W18 (Ne.symm (own_ne_arf E_r0_17 (oW hw 7 rfl) A_hd_17))
      have A_fa_18 := A_fa_17.other W18 (Ne.symm (own_ne_arf E_r0_17 (oW hw 7 rfl) A_fa_17))
      have A_ea_18 := A_ea_17.other W18 (Ne.symm (own_ne_arf E_r0_17 (oW hw 7 rfl) A_ea_17))
      have N18 := Fr.snoc X18 N17 ge_r0
      have Z18 : n0 ≤ h18.size := Nat.le_trans Z17 (Keep.of_wr W18).1
      have F_senders_r0_18 := F_senders_r0_17.same W18
      refine own_go (fun tg k => st18 tg k) ?_
      refine own_go (fun _ k => XS.aloadN X18.here hx rfl (hb hby d11_167) rfl rfl (XS.aconstNull X18.here hx rfl (hb hby d11_168) k)) ?_
      obtain ⟨T19, h19, X19, e19, W19, st19⟩ := putF X18 hx hZ hown (host := "") (Or.inl (oW hw 131 rfl)) Via.refl e18 F_messages_r0_18 E_r0_18 (Or.inl (oW hw 132 rfl)) (oW hw 7 rfl) (ty := (.array .long)) (by decide) rfl rfl (g := (mkF m 169 #[oR r0, oI p1, .val (.long (own_tot (own_tot (0 : Int64) La) Lb)), oS, oR ob, oI 2, oI 2, j716, oU, oU, oU] [.null, (.ref r0)])) rfl rfl (hb hby d11_169)
      have E_r0_19 := E_r0_18.wr W19
      have F_receivers_r0_19 := F_receivers_r0_18.other W19 (Or.inr (own_sn675 hw))
      have F_outboxes_r0_19 := F_outboxes_r0_18.other W19 (Or.inr (own_sn676 hw))
      have F_recipients_r0_19 := F_recipients_r0_18.other W19 (Or.inr (own_sn677 hw))
      have F_delivered_r0_19 := F_delivered_r0_18.other W19 (Or.inr (own_sn678 hw))
      have F_senders_r0_19 := F_senders_r0_18.other W19 (Or.inr (own_sn679 hw))
      have F_first_r0_19 := F_first_r0_18.other W19 (Or.inr (own_sn680 hw))
      have F_end_r0_19 := F_end_r0_18.other W19 (Or.inr (own_sn681 hw))
      have O_ob_19 := O_ob_18.other W19 (Ne.symm (own_ne_oa E_r0_18 (oW hw 7 rfl) O_ob_18))
      have B_0_19 := B_0_18.other W19 nb_r0_0
      have B_1_19 := B_1_18.other W19 nb_r0_1
      have E_rv_19 := E_rv_18.wr W19
      have E_il_19 := E_il_18.wr W19
      have A_ix_19 := A_ix_18.other W19 (Ne.symm (own_ne_arf E_r0_18 (oW hw 7 rfl) A_ix_18))
      have A_wd_19 := A_wd_18.other W19 (Ne.symm (own_ne_arf E_r0_18 (oW hw 7 rfl) A_wd_18))
      have A_hd_19 := A_hd_18.other W19 (Ne.symm (own_ne_arf E_r0_18 (oW hw 7 rfl) A_hd_18))
      have A_fa_19 := A_fa_18.other W19 (Ne.symm (own_ne_arf E_r0_18 (oW hw 7 rfl) A_fa_18))
      have A_ea_19 := A_ea_18.other W19 (Ne.symm (own_ne_arf E_r0_18 (oW hw 7 rfl) A_ea_18))
      have N19 := Fr.snoc X19 N18 ge_r0
      have Z19 : n0 ≤ h19.size := Nat.le_trans Z18 (Keep.of_wr W19).1
      have F_messages_r0_19 := F_messages_r0_18.same W19
      refine own_go (fun tg k => st19 tg k) ?_
      refine own_go (fun _ k => XS.lloadN X19.here hx rfl (hb hby d11_172) rfl (XS.lconst X19.here hx rfl (hb hby d11_173) (XS.lcmp X19.here hx rfl (hb hby d11_174) rfl k))) ?_
      show oF (T19.setTop (mkF m 175 #[oR r0, oI p1, .val (.long (own_tot (own_tot (0 : Int64) La) Lb)), oS, oR ob, oI 2, oI 2, j716, oU, oU, oU] [(.int (lcmpW (own_tot (own_tot (0 : Int64) La) Lb) (0 : Int64)))]))
      have hc175 : (own_tot (own_tot (0 : Int64) La) Lb) = (0 : Int64) := (own_tot0 hz)
      refine own_go (fun _ k => XS.ifNo X19.here hx rfl (hb hby d11_175) rfl ((if0 _ _).trans (teq ((lw_eq _ _).mpr hc175)).2) (XS.iconst X19.here hx rfl (hb hby d11_178) k)) ?_
      refine own_ret X19 hx hlk Bd.returns rfl (Or.inl ⟨rfl, by simp, _, rfl⟩) (hb hby d11_179) (Nat.le_of_ble_eq_true rfl) (Nat.le_of_ble_eq_true rfl) ?_
      rw [e19]
      refine ⟨?_, N19, (by have q : s.heap.size ≤ T19.heap.size := X19.same.2.1; rw [hh, e19] at q; exact q), ?_⟩
      · rfl
      · first | (exact ⟨E_r0_19, Or.inr ⟨ea, F_end_r0_19, own_Arf.fn A_ea_19 (fun j hj => congrArg Value.int (own_ZIx hZI hc3 j hj))⟩⟩) | (simp only [if_neg hc3]; exact ⟨E_r0_19, Or.inr ⟨ea, F_end_r0_19, own_Arf.fn A_ea_19 (fun j hj => congrArg Value.int (own_ZIx hZI hc3 j hj))⟩⟩)
     obtain ⟨hl20, ⟨hv20, hD20, hL20⟩ | ⟨xa20, xb20, xc20, xd20, q120, gg20, q320, hv20, hD20, hB20, hg20⟩⟩ := id B_1_15L
     ·refine own_vr hv20 ?_
      show oF (T15L.setTop (mkF m 103 #[oR r0, oI p1, .val (.long (own_tot (0 : Int64) La)), oS, oR ob, oI 2, oI 1, j715, oU, oU, oU] [.null]))
      refine own_go (fun _ k => XS.astoreS X15L.here hx rfl (hb hby d11_103) rfl rfl rfl rfl hj715 (XS.lloadN X15L.here hx rfl (hb hby d11_105) rfl (XS.aload X15L.here hx rfl (hb hby d11_106) rfl rfl (XS.ifnonnullNo X15L.here hx rfl (hb hby d11_108) rfl (XS.lconst X15L.here hx rfl (hb hby d11_111) (XS.goto X15L.here hx rfl (pc0 := 112) (pc' := 121) rfl (hb hby d11_112) (by decide) (by decide) (XS.ladd X15L.here hx rfl (hb hby d11_121) rfl (XS.lstoreN X15L.here hx rfl (hb hby d11_122) rfl (l' := #[oR r0, oI p1, .val (.long ((own_tot (0 : Int64) La) + (0 : Int64))), oS, oR ob, oI 2, oI 1, .val .null, oU, oU, oU]) rfl k)))))))) ?_
      have kj := hk16  T15L _ h15L (.val .null) (own_mono X15L (by decide) (by decide)) N15L e15L (One.val rfl) Z15L E_r0_15L F_receivers_r0_15L F_outboxes_r0_15L F_recipients_r0_15L F_delivered_r0_15L F_senders_r0_15L F_messages_r0_15L F_first_r0_15L F_end_r0_15L O_ob_15L B_0_15L B_1_15L E_rv_15L E_il_15L A_ix_15L A_wd_15L A_hd_15L A_fa_15L A_ea_15L
      rw [show (own_tot (own_tot (0 : Int64) La) Lb) = ((own_tot (0 : Int64) La) + (0 : Int64)) from by rw [hL20]; first | rfl | decide | simp [own_tot]] at kj
      exact kj
     ·refine own_vr hv20 ?_
      show oF (T15L.setTop (mkF m 103 #[oR r0, oI p1, .val (.long (own_tot (0 : Int64) La)), oS, oR ob, oI 2, oI 1, j715, oU, oU, oU] [(.ref xa20)]))
      obtain ⟨⟨ge_xa20, ge_xb20, ge_xc20, ge_xd20, ne_xb20_xc20⟩, E_xa20_o, F_size_xa20_o, F_senders_xa20_o, F_receivers_xa20_o, F_messages_xa20_o, A_xb20_o, A_xc20_o, A_xd20_o⟩ := hB20
      refine own_go (fun _ k => XS.astoreS X15L.here hx rfl (hb hby d11_103) rfl rfl rfl rfl hj715 (XS.lloadN X15L.here hx rfl (hb hby d11_105) rfl (XS.aload X15L.here hx rfl (hb hby d11_106) rfl rfl (XS.ifnonnullYes X15L.here hx rfl (pc0 := 108) (pc' := 115) rfl (hb hby d11_108) rfl (by decide) (by decide) (XS.aload X15L.here hx rfl (hb hby d11_115) rfl rfl k))))) ?_
      refine own_go (fun tg k => own_getFR X15L hx hZ hown (oW hw 125 rfl) e15L F_size_xa20_o (g := (mkF m 117 #[oR r0, oI p1, .val (.long (own_tot (0 : Int64) La)), oS, oR ob, oI 2, oI 1, oR xa20, oU, oU, oU] [(.ref xa20), (.long (own_tot (0 : Int64) La))])) rfl rfl (hb hby d11_117) tg k) ?_
      refine own_go (fun _ k => XS.i2l X15L.here hx rfl (hb hby d11_120) rfl k) ?_
      show oF (T15L.setTop (mkF m 121 #[oR r0, oI p1, .val (.long (own_tot (0 : Int64) La)), oS, oR ob, oI 2, oI 1, oR xa20, oU, oU, oU] [(.long ((Int32.ofNat Lb.length).toInt64)), (.long (own_tot (0 : Int64) La))]))
      refine own_go (fun _ k => XS.ladd X15L.here hx rfl (hb hby d11_121) rfl (XS.lstoreN X15L.here hx rfl (hb hby d11_122) rfl (l' := #[oR r0, oI p1, .val (.long ((own_tot (0 : Int64) La) + ((Int32.ofNat Lb.length).toInt64))), oS, oR ob, oI 2, oI 1, oR xa20, oU, oU, oU]) rfl k)) ?_
      exact hk16  T15L _ h15L (oR xa20) (own_mono X15L (by decide) (by decide)) N15L e15L (One.val rfl) Z15L E_r0_15L F_receivers_r0_15L F_outboxes_r0_15L F_recipients_r0_15L F_delivered_r0_15L F_senders_r0_15L F_messages_r0_15L F_first_r0_15L F_end_r0_15L O_ob_15L B_0_15L B_1_15L E_rv_15L E_il_15L A_ix_15L A_wd_15L A_hd_15L A_fa_15L A_ea_15L
    obtain ⟨hl21, ⟨hv21, hD21, hL21⟩ | ⟨xa21, xb21, xc21, xd21, q121, gg21, q321, hv21, hD21, hB21, hg21⟩⟩ := id B_0_13
    ·refine own_vr hv21 ?_
     show oF (T14.setTop (mkF m 103 #[oR r0, oI p1, .val (.long (0 : Int64)), oS, oR ob, oI 2, oI 0, oU, oU, oU, oU] [.null]))
     refine own_go (fun _ k => XS.astore X14.here hx rfl (hb hby d11_103) rfl rfl (l' := #[oR r0, oI p1, .val (.long (0 : Int64)), oS, oR ob, oI 2, oI 0, .val .null, oU, oU, oU]) rfl (XS.lloadN X14.here hx rfl (hb hby d11_105) rfl (XS.aload X14.here hx rfl (hb hby d11_106) rfl rfl (XS.ifnonnullNo X14.here hx rfl (hb hby d11_108) rfl (XS.lconst X14.here hx rfl (hb hby d11_111) (XS.goto X14.here hx rfl (pc0 := 112) (pc' := 121) rfl (hb hby d11_112) (by decide) (by decide) (XS.ladd X14.here hx rfl (hb hby d11_121) rfl k))))))) ?_
     show oF (T14.setTop (mkF m 122 #[oR r0, oI p1, .val (.long (0 : Int64)), oS, oR ob, oI 2, oI 0, .val .null, oU, oU, oU] [(.long (0 : Int64))]))
     refine own_go (fun _ k => XS.lstoreN X14.here hx rfl (hb hby d11_122) rfl (l' := #[oR r0, oI p1, .val (.long (0 : Int64)), oS, oR ob, oI 2, oI 0, .val .null, oU, oU, oU]) rfl k) ?_
     have kj := hk15  T14 _ T13.heap (.val .null) (own_mono X14 (by decide) (by decide)) N13 e14 (One.val rfl) Z13 E_r0_13 F_receivers_r0_13 F_outboxes_r0_13 F_recipients_r0_13 F_delivered_r0_13 F_senders_r0_13 F_messages_r0_13 F_first_r0_13 F_end_r0_13 O_ob_13 B_0_13 B_1_13 E_rv_13 E_il_13 A_ix_13 A_wd_13 A_hd_13 A_fa_13 A_ea_13
     rw [show (own_tot (0 : Int64) La) = (0 : Int64) from by rw [hL21]; first | rfl | decide | simp [own_tot]] at kj
     exact kj
    ·refine own_vr hv21 ?_
     show oF (T14.setTop (mkF m 103 #[oR r0, oI p1, .val (.long (0 : Int64)), oS, oR ob, oI 2, oI 0, oU, oU, oU, oU] [(.ref xa21)]))
     obtain ⟨⟨ge_xa21, ge_xb21, ge_xc21, ge_xd21, ne_xb21_xc21⟩, E_xa21_o, F_size_xa21_o, F_senders_xa21_o, F_receivers_xa21_o, F_messages_xa21_o, A_xb21_o, A_xc21_o, A_xd21_o⟩ := hB21
     refine own_go (fun _ k => XS.astore X14.here hx rfl (hb hby d11_103) rfl rfl (l' := #[oR r0, oI p1, .val (.long (0 : Int64)), oS, oR ob, oI 2, oI 0, oR xa21, oU, oU, oU]) rfl (XS.lloadN X14.here hx rfl (hb hby d11_105) rfl (XS.aload X14.here hx rfl (hb hby d11_106) rfl rfl (XS.ifnonnullYes X14.here hx rfl (pc0 := 108) (pc' := 115) rfl (hb hby d11_108) rfl (by decide) (by decide) (XS.aload X14.here hx rfl (hb hby d11_115) rfl rfl k))))) ?_
     refine own_go (fun tg k => own_getFR X14 hx hZ hown (oW hw 125 rfl) e14 F_size_xa21_o (g := (mkF m 117 #[oR r0, oI p1, .val (.long (0 : Int64)), oS, oR ob, oI 2, oI 0, oR xa21, oU, oU, oU] [(.ref xa21), (.long (0 : Int64))])) rfl rfl (hb hby d11_117) tg k) ?_
     refine own_go (fun _ k => XS.i2l X14.here hx rfl (hb hby d11_120) rfl k) ?_
     show oF (T14.setTop (mkF m 121 #[oR r0, oI p1, .val (.long (0 : Int64)), oS, oR ob, oI 2, oI 0, oR xa21, oU, oU, oU] [(.long ((Int32.ofNat La.length).toInt64)), (.long (0 : Int64))]))
     refine own_go (fun _ k => XS.ladd X14.here hx rfl (hb hby d11_121) rfl (XS.lstoreN X14.here hx rfl (hb hby d11_122) rfl (l' := #[oR r0, oI p1, .val (.long ((0 : Int64) + ((Int32.ofNat La.length).toInt64))), oS, oR ob, oI 2, oI 0, oR xa21, oU, oU, oU]) rfl k)) ?_
     exact hk15  T14 _ T13.heap (oR xa21) (own_mono X14 (by decide) (by decide)) N13 e14 (One.val rfl) Z13 E_r0_13 F_receivers_r0_13 F_outboxes_r0_13 F_recipients_r0_13 F_delivered_r0_13 F_senders_r0_13 F_messages_r0_13 F_first_r0_13 F_end_r0_13 O_ob_13 B_0_13 B_1_13 E_rv_13 E_il_13 A_ix_13 A_wd_13 A_hd_13 A_fa_13 A_ea_13
 exact loopU _ ((0 : Int32)) (fF0) ((own_EEf M)) s₁ _ h0 (.unset) (.unset) rfl (own_ZI0 hBS) (own_mono X0 (by decide) (by decide)) N0 e0 One.u One.u Z0 E_r0_0 F_receivers_r0_0 F_outboxes_r0_0 F_recipients_r0_0 F_delivered_r0_0 F_senders_r0_0 F_messages_r0_0 F_first_r0_0 F_end_r0_0 O_ob_0 B_0_0 B_1_0 E_rv_0 F_words_rv_0 F_held_rv_0 F_blocks_rv_0 F_sorted_rv_0 E_il_0 F_indices_il_0 F_size_il_0 A_ix_0 A_wd_0 A_hd_0 A_fa_0 A_ea_0
def Qrm8H (Z : State) (r0 : Addr) (p1 : Int32) (p2 : Int32) (p3 : Int32) (q4 : Int64) (n : Int32) (La : List Int32) (Lb : List Int32) (h0 : Heap) (n0 : Nat) (v : Option Value) (h : Heap) (L : List Loc) : Prop := v = none ∧ Fr n0 L ∧ h0.size ≤ h.size ∧ own_AMf Z h n0 r0 n (own_psh p1 (0 : Int32) La p3) (own_psh p1 (1 : Int32) Lb p3)
theorem rm8H (l : Launch) (Z : State) (a0 : Array Value) (hw : oH Z a0) (ws : List Jvm.Cond) (r0 : Addr) (p1 : Int32) (p2 : Int32) (p3 : Int32) (q4 : Int64) (n : Int32) (La : List Int32) (Lb : List Int32) (h0 : Heap) (n0 : Nat) (Z0 : n0 ≤ h0.size) (H : own_AMf Z h0 n0 r0 n La Lb) (hbb : p1 = 0 ∨ p1 = 1) (hl : La.length + Lb.length ≤ 3) :
    MetFree l oM30 (head1 (Jvm.Cond.code oM30 prog_18_method_2_code 7 none :: ws) rm8_room) (fun a U => a = #[(.ref r0), (.int p1), (.int p2), (.int p3), (.long q4)] ∧ Z.Warmed39 U.vm ∧ U.heap = h0) (fun _ _ _ _ _ => True) (fun _ U o U' => ∃ v L, o = .returned v ∧ (Qrm8H Z r0 p1 p2 p3 q4 n La Lb h0 n0 v U'.heap L) ∧ FrameEnd U o U' L rm8_room.cells rm8_room.slots) := by
  obtain ⟨ob, rv, dl, vS, vM, v0, v1, Da, Db, wd, hd, il, ix, nb, fi, E_r0_0, F_receivers_r0_0, F_outboxes_r0_0, F_recipients_r0_0, F_delivered_r0_0, F_senders_r0_0, F_messages_r0_0, F_first_r0_0, F_end_r0_0, O_ob_0, B_0_0, B_1_0, E_rv_0, F_words_rv_0, F_held_rv_0, F_blocks_rv_0, F_sorted_rv_0, E_il_0, F_indices_il_0, F_size_il_0, A_ix_0, A_wd_0, A_hd_0, ge_r0, ge_rv, ge_wd, ge_hd, ge_il, ge_ix, ge_ob, nb_r0_0, nb_r0_1, nb_rv_0, nb_rv_1, nb_wd_0, nb_wd_1, nb_hd_0, nb_hd_1, nb_il_0, nb_il_1, nb_ix_0, nb_ix_1, nb_ob_0, nb_ob_1, hdj, hn⟩ := H
  intro p e ha hc hk s m a below hf happ hP hK
  obtain ⟨k, o, h1, h2, h3, v, L, h4, hQ, hF⟩ := rm8 l Z a0 hw ws r0 p1 p2 p3 q4 ob v0 v1 Da Db La Lb h0 n0 Z0 E_r0_0 F_outboxes_r0_0 O_ob_0 B_0_0 B_1_0 ge_ob nb_ob_0 nb_ob_1 hdj hbb hl p e ha hc hk s m a below hf happ hP hK
  obtain ⟨w0, w1, C0, C1, e1, N, K, O', B0', B1', q0, q1, hdj'⟩ := hQ
  exact ⟨k, o, h1, h2, h3, v, L, h4, ⟨e1, N, K.1, ob, rv, dl, vS, vM, w0, w1, C0, C1, wd, hd, il, ix, nb, fi, E_r0_0.keep K, F_receivers_r0_0.keep K (own_nk (own_ne_oa E_r0_0 (oW hw 7 rfl) O_ob_0) nb_r0_0 nb_r0_1), F_outboxes_r0_0.keep K (own_nk (own_ne_oa E_r0_0 (oW hw 7 rfl) O_ob_0) nb_r0_0 nb_r0_1), F_recipients_r0_0.keep K (own_nk (own_ne_oa E_r0_0 (oW hw 7 rfl) O_ob_0) nb_r0_0 nb_r0_1), F_delivered_r0_0.keep K (own_nk (own_ne_oa E_r0_0 (oW hw 7 rfl) O_ob_0) nb_r0_0 nb_r0_1), F_senders_r0_0.keep K (own_nk (own_ne_oa E_r0_0 (oW hw 7 rfl) O_ob_0) nb_r0_0 nb_r0_1), F_messages_r0_0.keep K (own_nk (own_ne_oa E_r0_0 (oW hw 7 rfl) O_ob_0) nb_r0_0 nb_r0_1), F_first_r0_0.keep K (own_nk (own_ne_oa E_r0_0 (oW hw 7 rfl) O_ob_0) nb_r0_0 nb_r0_1), F_end_r0_0.keep K (own_nk (own_ne_oa E_r0_0 (oW hw 7 rfl) O_ob_0) nb_r0_0 nb_r0_1), O', B0', B1', E_rv_0.keep K, F_words_rv_0.keep K (own_nk (own_ne_oa E_rv_0 (oW hw 32 rfl) O_ob_0) nb_rv_0 nb_rv_1), F_held_rv_0.keep K (own_nk (own_ne_oa E_rv_0 (oW hw 32 rfl) O_ob_0) nb_rv_0 nb_rv_1), F_blocks_rv_0.keep K (own_nk (own_ne_oa E_rv_0 (oW hw 32 rfl) O_ob_0) nb_rv_0 nb_rv_1), F_sorted_rv_0.keep K (own_nk (own_ne_oa E_rv_0 (oW hw 32 rfl) O_ob_0) nb_rv_0 nb_rv_1), E_il_0.keep K, F_indices_il_0.keep K (own_nk (own_ne_oa E_il_0 (oW hw 43 rfl) O_ob_0) nb_il_0 nb_il_1), F_size_il_0.keep K (own_nk (own_ne_oa E_il_0 (oW hw 43 rfl) O_ob_0) nb_il_0 nb_il_1), A_ix_0.keep K (own_nk (own_ne_oarf A_ix_0 O_ob_0 (by decide)) nb_ix_0 nb_ix_1), A_wd_0.keep K (own_nk (own_ne_oarf A_wd_0 O_ob_0 (by decide)) nb_wd_0 nb_wd_1), A_hd_0.keep K (own_nk (own_ne_oarf A_hd_0 O_ob_0 (by decide)) nb_hd_0 nb_hd_1), ge_r0, ge_rv, ge_wd, ge_hd, ge_il, ge_ix, ge_ob, own_nbC nb_r0_0 E_r0_0.lt q0, own_nbC nb_r0_1 E_r0_0.lt q1, own_nbC nb_rv_0 E_rv_0.lt q0, own_nbC nb_rv_1 E_rv_0.lt q1, own_nbC nb_wd_0 A_wd_0.lt q0, own_nbC nb_wd_1 A_wd_0.lt q1, own_nbC nb_hd_0 A_hd_0.lt q0, own_nbC nb_hd_1 A_hd_0.lt q1, own_nbC nb_il_0 E_il_0.lt q0, own_nbC nb_il_1 E_il_0.lt q1, own_nbC nb_ix_0 A_ix_0.lt q0, own_nbC nb_ix_1 A_ix_0.lt q1, own_nbC nb_ob_0 O_ob_0.lt q0, own_nbC nb_ob_1 O_ob_0.lt q1, hdj', hn⟩, hF⟩
theorem d7_0 : oQ oD32 0 (.aload_n 0) 1 := by decide +kernel
theorem d7_1 : oQ oD32 1 (.getfield 51) 3 := by decide +kernel
theorem d7_4 : oQ oD32 4 (.ifnonnull 7) 3 := by decide +kernel
theorem d7_7 : oQ oD32 7 (.iconst 0) 1 := by decide +kernel
theorem d7_8 : oQ oD32 8 (.goto 9) 3 := by decide +kernel
theorem d7_17 : oQ oD32 17 .ireturn 1 := by decide +kernel
theorem pn_7 : plainName oC0 = true := by first | (simp [plainName, overriddenIn]; done) | decide +kernel
theorem ef_7 (m : MethodId) (r0 : Addr) (p1 : Int32) : entryFrame m #[(.ref r0), (.int p1)] 2 = mkF m 0 #[oR r0, oI p1] [] := by first | (simp [entryFrame, mkF, argsToLocals, Value.category]; done) | rfl
def rm7n_room : Room := { frames := 0, cells := 0, slots := 0, locals := 0 }
def Qrm7n (Z : State) (r0 : Addr) (p1 : Int32) (h0 : Heap) (n0 : Nat) (v : Option Value) (h : Heap) (L : List Loc) : Prop := v = some (.int 0) ∧ Fr n0 L ∧ h = h0
set_option maxRecDepth 65536 in
set_option maxHeartbeats 40000000 in
theorem rm7n (l : Launch) (Z : State) (a0 : Array Value) (hw : oH Z a0) (ws : List Jvm.Cond) (r0 : Addr) (p1 : Int32) (h0 : Heap) (n0 : Nat) (Z0 : n0 ≤ h0.size) (F_end_r0_0 : Fld Z h0 r0 oC0 "end" "[I" .null) :
    MetFree l oM32 (head1 (Jvm.Cond.code oM32 prog_18_method_4_code 2 (some .int) :: ws) rm7n_room) (fun a U => a = #[(.ref r0), (.int p1)] ∧ Z.Warmed39 U.vm ∧ U.heap = h0) (fun _ _ _ _ _ => True) (fun _ U o U' => ∃ v L, o = .returned v ∧ Qrm7n Z r0 p1 h0 n0 v U'.heap L ∧ FrameEnd U o U' L rm7n_room.cells rm7n_room.slots) := by
 refine MetFree.of_bodySF (plainFor_of_name pn_7) hisR ?_
 intro p e s m args below meth c s₁ Bd hml0 hP hK
 obtain ⟨rfl, hZ, hh⟩ := hP
 have hx := Bd.exec
 have hby := Bd.bytes
 have hml : c.maxLocals = 2 := hml0
 have hown : s.vm.findClass oC0 = some m.cls := findClass_of_methodNamed Bd.named
 have hnm := (name_of_methodNamed Bd.named Bd.method).1
 have hlk : meth.locks = false := BodyLoose.notSynchronized Bd
 have X0 : Stand p l e rm7n_room s m #[(.ref r0), (.int p1)] below meth c s₁ [] 0 0 := Stand.of_body Bd
 have e0 : s₁.heap = h0 := by rw [← hh, Bd.state]; rfl
 have N0 := Fr.nil n0
 show own_Fin p.tables e below s (Qrm7n Z r0 p1 h0 n0) rm7n_room.cells rm7n_room.slots (s₁.setTop (entryFrame m #[(.ref r0), (.int p1)] 2))
 rw [ef_7]
 show oF (s₁.setTop (mkF m 0 #[oR r0, oI p1] []))
 refine own_go (fun _ k => XS.aloadN X0.here hx rfl (hb hby d7_0) rfl rfl k) ?_
 obtain ⟨T1, X1, e1, st1⟩ := getF X0 hx hZ hown (host := "") (Or.inl (oW hw 69 rfl)) Via.refl e0 F_end_r0_0 (g := (mkF m 1 #[oR r0, oI p1] [(.ref r0)])) rfl rfl (hb hby d7_1)
 refine own_go (fun tg k => st1 tg k) ?_
 refine own_go (fun _ k => XS.ifnonnullNo X1.here hx rfl (hb hby d7_4) rfl (XS.iconst X1.here hx rfl (hb hby d7_7) (XS.goto X1.here hx rfl (pc0 := 8) (pc' := 17) rfl (hb hby d7_8) (by decide) (by decide) k))) ?_
 refine own_ret X1 hx hlk Bd.returns rfl (Or.inl ⟨rfl, by simp, _, rfl⟩) (hb hby d7_17) (Nat.le_of_ble_eq_true rfl) (Nat.le_of_ble_eq_true rfl) ?_
 refine ⟨?_, N0, e1⟩
 · rfl
theorem d7_11 : oQ oD32 11 (.aload_n 0) 1 := by decide +kernel
theorem d7_12 : oQ oD32 12 (.getfield 51) 3 := by decide +kernel
theorem d7_15 : oQ oD32 15 (.iload_n 1) 1 := by decide +kernel
theorem d7_16 : oQ oD32 16 .iaload 1 := by decide +kernel
def Qrm7a (Z : State) (r0 : Addr) (p1 : Int32) (fa : Addr) (n : Int32) (f : Nat → Int32) (h0 : Heap) (n0 : Nat) (v : Option Value) (h : Heap) (L : List Loc) : Prop := v = some (.int (f p1.toNatClampNeg)) ∧ Fr n0 L ∧ h = h0
set_option maxRecDepth 65536 in
set_option maxHeartbeats 40000000 in
theorem rm7a (l : Launch) (Z : State) (a0 : Array Value) (hw : oH Z a0) (ws : List Jvm.Cond) (r0 : Addr) (p1 : Int32) (fa : Addr) (n : Int32) (f : Nat → Int32) (h0 : Heap) (n0 : Nat) (Z0 : n0 ≤ h0.size) (F_end_r0_0 : Fld Z h0 r0 oC0 "end" "[I" (.ref fa)) (A_fa_0 : own_Arf Z h0 fa .int n (fun i => .int (f i))) (hp : ¬ p1 < 0 ∧ p1 < n) :
    MetFree l oM32 (head1 (Jvm.Cond.code oM32 prog_18_method_4_code 2 (some .int) :: ws) rm7n_room) (fun a U => a = #[(.ref r0), (.int p1)] ∧ Z.Warmed39 U.vm ∧ U.heap = h0) (fun _ _ _ _ _ => True) (fun _ U o U' => ∃ v L, o = .returned v ∧ Qrm7a Z r0 p1 fa n f h0 n0 v U'.heap L ∧ FrameEnd U o U' L rm7n_room.cells rm7n_room.slots) := by
 refine MetFree.of_bodySF (plainFor_of_name pn_7) hisR ?_
 intro p e s m args below meth c s₁ Bd hml0 hP hK
 obtain ⟨rfl, hZ, hh⟩ := hP
 have hx := Bd.exec
 have hby := Bd.bytes
 have hml : c.maxLocals = 2 := hml0
 have hown : s.vm.findClass oC0 = some m.cls := findClass_of_methodNamed Bd.named
 have hnm := (name_of_methodNamed Bd.named Bd.method).1
 have hlk : meth.locks = false := BodyLoose.notSynchronized Bd
 have X0 : Stand p l e rm7n_room s m #[(.ref r0), (.int p1)] below meth c s₁ [] 0 0 := Stand.of_body Bd
 have e0 : s₁.heap = h0 := by rw [← hh, Bd.state]; rfl
 have N0 := Fr.nil n0
 show own_Fin p.tables e below s (Qrm7a Z r0 p1 fa n f h0 n0) rm7n_room.cells rm7n_room.slots (s₁.setTop (entryFrame m #[(.ref r0), (.int p1)] 2))
 rw [ef_7]
 show oF (s₁.setTop (mkF m 0 #[oR r0, oI p1] []))
 refine own_go (fun _ k => XS.aloadN X0.here hx rfl (hb hby d7_0) rfl rfl k) ?_
 obtain ⟨T1, X1, e1, st1⟩ := getF X0 hx hZ hown (host := "") (Or.inl (oW hw 69 rfl)) Via.refl e0 F_end_r0_0 (g := (mkF m 1 #[oR r0, oI p1] [(.ref r0)])) rfl rfl (hb hby d7_1)
 refine own_go (fun tg k => st1 tg k) ?_
 refine own_go (fun _ k => XS.ifnonnullYes X1.here hx rfl (pc0 := 4) (pc' := 11) rfl (hb hby d7_4) rfl (by decide) (by decide) (XS.aloadN X1.here hx rfl (hb hby d7_11) rfl rfl k)) ?_
 obtain ⟨T2, X2, e2, st2⟩ := getF X1 hx hZ hown (host := "") (Or.inl (oW hw 69 rfl)) Via.refl e1 F_end_r0_0 (g := (mkF m 12 #[oR r0, oI p1] [(.ref r0)])) rfl rfl (hb hby d7_12)
 refine own_go (fun tg k => st2 tg k) ?_
 refine own_go (fun _ k => XS.iloadN X2.here hx rfl (hb hby d7_15) rfl k) ?_
 refine own_go (fun tg k => own_iaload X2 hx hZ e2 A_fa_0 (j := p1) hp (x := (f p1.toNatClampNeg)) rfl (g := (mkF m 16 #[oR r0, oI p1] [(.int p1), (.ref fa)])) rfl rfl (hb hby d7_16) tg k) ?_
 show oF (T2.setTop (mkF m 17 #[oR r0, oI p1] [(.int (f p1.toNatClampNeg))]))
 refine own_ret X2 hx hlk Bd.returns rfl (Or.inl ⟨rfl, by simp, _, rfl⟩) (hb hby d7_17) (Nat.le_of_ble_eq_true rfl) (Nat.le_of_ble_eq_true rfl) ?_
 refine ⟨?_, N0, e2⟩
 · rfl
def Qrm7H (Z : State) (r0 : Addr) (p1 : Int32) (n : Int32) (E : Nat → Int32) (h0 : Heap) (n0 : Nat) (v : Option Value) (h : Heap) (L : List Loc) : Prop := v = some (.int (E p1.toNatClampNeg)) ∧ Fr n0 L ∧ h = h0
theorem rm7H (l : Launch) (Z : State) (a0 : Array Value) (hw : oH Z a0) (ws : List Jvm.Cond) (r0 : Addr) (p1 n : Int32) (E : Nat → Int32) (h0 : Heap) (n0 : Nat) (Z0 : n0 ≤ h0.size) (H : own_AMr Z h0 n0 r0 n E) (hp : own_in p1 n) :
    MetFree l oM32 (head1 (Jvm.Cond.code oM32 prog_18_method_4_code 2 (some .int) :: ws) rm7n_room) (fun a U => a = #[(.ref r0), (.int p1)] ∧ Z.Warmed39 U.vm ∧ U.heap = h0) (fun _ _ _ _ _ => True) (fun _ U o U' => ∃ v L, o = .returned v ∧ (Qrm7H Z r0 p1 n E h0 n0 v U'.heap L) ∧ FrameEnd U o U' L rm7n_room.cells rm7n_room.slots) := by
  obtain ⟨-, ⟨f2, rfl⟩ | ⟨ea, f2, a2⟩⟩ := H
  · exact rm7n l Z a0 hw ws r0 p1 h0 n0 Z0 f2
  · exact rm7a l Z a0 hw ws r0 p1 ea n E h0 n0 Z0 f2 a2 hp
def Qrm11D (Z : State) (r0 : Addr) (p1 : Int32) (n : Int32) (M : List Int32) (h0 : Heap) (n0 : Nat) (v : Option Value) (h : Heap) (L : List Loc) : Prop := v = some (.int 0) ∧ Fr n0 L ∧ h0.size ≤ h.size ∧ own_AMr Z h n0 r0 n (fun _ => (0 : Int32))
theorem rm11D (l : Launch) (Z : State) (a0 : Array Value) (hw : oH Z a0) (ws : List Jvm.Cond) (r0 : Addr) (p1 : Int32) (n : Int32) (M : List Int32) (h0 : Heap) (n0 : Nat) (Z0 : n0 ≤ h0.size) (H : own_AMx Z h0 n0 r0 n M) :
    MetFree l oM31 (head1 (Jvm.Cond.code oM31 prog_18_method_9_code 11 (some .boolean) :: ws) rm11f_room) (fun a U => a = #[(.ref r0), (.int p1)] ∧ Z.Warmed39 U.vm ∧ U.heap = h0) (fun _ _ _ _ _ => True) (fun _ U o U' => ∃ v L, o = .returned v ∧ (Qrm11D Z r0 p1 n M h0 n0 v U'.heap L) ∧ FrameEnd U o U' L rm11f_room.cells rm11f_room.slots) := by
  rcases H with ⟨H, -⟩ | H
  · intro p e ha hc hk s m a below hf happ hP hK
    obtain ⟨k, o, h1, h2, h3, v, L, h4, ⟨e1, N, sz, H'⟩, hF⟩ := rm11f l Z a0 hw ws r0 p1 n [] [] h0 n0 Z0 H (by decide) (fun r hr => absurd hr List.not_mem_nil) p e ha hc hk s m a below hf happ hP hK
    exact ⟨k, o, h1, h2, h3, v, L, h4, ⟨e1, N, sz, own_x2r H'⟩, hF⟩
  · exact rm11u l Z a0 hw ws r0 p1 n M h0 n0 Z0 H
theorem own_sn984 {Z : State} {a0 : Array Value} (hw : oH Z a0) : oO Z oC0 "senderKind" oC12 ≠ oO Z oC0 "receivers" "I" := slot_ne (Or.inr (oW hw 26 rfl)) (Or.inr (oW hw 24 rfl)) (by decide) (t := (.object oC13)) (t' := .int) (by decide) (by decide)
theorem own_sn985 {Z : State} {a0 : Array Value} (hw : oH Z a0) : oO Z oC0 "outboxes" oC4 ≠ oO Z oC0 "receivers" "I" := slot_ne (Or.inr (oW hw 30 rfl)) (Or.inr (oW hw 24 rfl)) (by decide) (t := (.array (.object oC2))) (t' := .int) (by decide) (by decide)
theorem own_sn986 {Z : State} {a0 : Array Value} (hw : oH Z a0) : oO Z oC0 "recipients" oC6 ≠ oO Z oC0 "receivers" "I" := slot_ne (Or.inr (oW hw 63 rfl)) (Or.inr (oW hw 24 rfl)) (by decide) (t := (.object oC1)) (t' := .int) (by decide) (by decide)
theorem own_sn987 {Z : State} {a0 : Array Value} (hw : oH Z a0) : oO Z oC0 "first" "[I" ≠ oO Z oC0 "receivers" "I" := slot_ne (Or.inl (oW hw 134 rfl)) (Or.inr (oW hw 24 rfl)) (by decide) (t := (.array .int)) (t' := .int) (by decide) (by decide)
theorem own_sn988 {Z : State} {a0 : Array Value} (hw : oH Z a0) : oO Z oC0 "end" "[I" ≠ oO Z oC0 "receivers" "I" := slot_ne (Or.inl (oW hw 70 rfl)) (Or.inr (oW hw 24 rfl)) (by decide) (t := (.array .int)) (t' := .int) (by decide) (by decide)
theorem own_sn989 {Z : State} {a0 : Array Value} (hw : oH Z a0) : oO Z oC0 "senders" "[I" ≠ oO Z oC0 "receivers" "I" := slot_ne (Or.inl (oW hw 130 rfl)) (Or.inr (oW hw 24 rfl)) (by decide) (t := (.array .int)) (t' := .int) (by decide) (by decide)
theorem own_sn990 {Z : State} {a0 : Array Value} (hw : oH Z a0) : oO Z oC0 "messages" "[J" ≠ oO Z oC0 "receivers" "I" := slot_ne (Or.inl (oW hw 132 rfl)) (Or.inr (oW hw 24 rfl)) (by decide) (t := (.array .long)) (t' := .int) (by decide) (by decide)
theorem own_sn991 {Z : State} {a0 : Array Value} (hw : oH Z a0) : oO Z oC0 "delivered" "I" ≠ oO Z oC0 "receivers" "I" := slot_ne (Or.inl (oW hw 128 rfl)) (Or.inr (oW hw 24 rfl)) (by decide) (t := .int) (t' := .int) (by decide) (by decide)
theorem own_sn992 {Z : State} {a0 : Array Value} (hw : oH Z a0) : oO Z oC0 "receivers" "I" ≠ oO Z oC0 "senderKind" oC12 := slot_ne (Or.inr (oW hw 24 rfl)) (Or.inr (oW hw 26 rfl)) (by decide) (t := .int) (t' := (.object oC13)) (by decide) (by decide)
theorem own_sn993 {Z : State} {a0 : Array Value} (hw : oH Z a0) : oO Z oC0 "outboxes" oC4 ≠ oO Z oC0 "senderKind" oC12 := slot_ne (Or.inr (oW hw 30 rfl)) (Or.inr (oW hw 26 rfl)) (by decide) (t := (.array (.object oC2))) (t' := (.object oC13)) (by decide) (by decide)
theorem own_sn994 {Z : State} {a0 : Array Value} (hw : oH Z a0) : oO Z oC0 "recipients" oC6 ≠ oO Z oC0 "senderKind" oC12 := slot_ne (Or.inr (oW hw 63 rfl)) (Or.inr (oW hw 26 rfl)) (by decide) (t := (.object oC1)) (t' := (.object oC13)) (by decide) (by decide)
theorem own_sn995 {Z : State} {a0 : Array Value} (hw : oH Z a0) : oO Z oC0 "first" "[I" ≠ oO Z oC0 "senderKind" oC12 := slot_ne (Or.inl (oW hw 134 rfl)) (Or.inr (oW hw 26 rfl)) (by decide) (t := (.array .int)) (t' := (.object oC13)) (by decide) (by decide)
theorem own_sn996 {Z : State} {a0 : Array Value} (hw : oH Z a0) : oO Z oC0 "end" "[I" ≠ oO Z oC0 "senderKind" oC12 := slot_ne (Or.inl (oW hw 70 rfl)) (Or.inr (oW hw 26 rfl)) (by decide) (t := (.array .int)) (t' := (.object oC13)) (by decide) (by decide)
theorem own_sn997 {Z : State} {a0 : Array Value} (hw : oH Z a0) : oO Z oC0 "senders" "[I" ≠ oO Z oC0 "senderKind" oC12 := slot_ne (Or.inl (oW hw 130 rfl)) (Or.inr (oW hw 26 rfl)) (by decide) (t := (.array .int)) (t' := (.object oC13)) (by decide) (by decide)
theorem own_sn998 {Z : State} {a0 : Array Value} (hw : oH Z a0) : oO Z oC0 "messages" "[J" ≠ oO Z oC0 "senderKind" oC12 := slot_ne (Or.inl (oW hw 132 rfl)) (Or.inr (oW hw 26 rfl)) (by decide) (t := (.array .long)) (t' := (.object oC13)) (by decide) (by decide)
theorem own_sn999 {Z : State} {a0 : Array Value} (hw : oH Z a0) : oO Z oC0 "delivered" "I" ≠ oO Z oC0 "senderKind" oC12 := slot_ne (Or.inl (oW hw 128 rfl)) (Or.inr (oW hw 26 rfl)) (by decide) (t := .int) (t' := (.object oC13)) (by decide) (by decide)
theorem own_sn1000 {Z : State} {a0 : Array Value} (hw : oH Z a0) : oO Z oC0 "receivers" "I" ≠ oO Z oC0 "outboxes" oC4 := slot_ne (Or.inr (oW hw 24 rfl)) (Or.inr (oW hw 30 rfl)) (by decide) (t := .int) (t' := (.array (.object oC2))) (by decide) (by decide)
theorem own_sn1001 {Z : State} {a0 : Array Value} (hw : oH Z a0) : oO Z oC0 "senderKind" oC12 ≠ oO Z oC0 "outboxes" oC4 := slot_ne (Or.inr (oW hw 26 rfl)) (Or.inr (oW hw 30 rfl)) (by decide) (t := (.object oC13)) (t' := (.array (.object oC2))) (by decide) (by decide)
theorem own_sn1002 {Z : State} {a0 : Array Value} (hw : oH Z a0) : oO Z oC0 "recipients" oC6 ≠ oO Z oC0 "outboxes" oC4 := slot_ne (Or.inr (oW hw 63 rfl)) (Or.inr (oW hw 30 rfl)) (by decide) (t := (.object oC1)) (t' := (.array (.object oC2))) (by decide) (by decide)
theorem own_sn1003 {Z : State} {a0 : Array Value} (hw : oH Z a0) : oO Z oC0 "first" "[I" ≠ oO Z oC0 "outboxes" oC4 := slot_ne (Or.inl (oW hw 134 rfl)) (Or.inr (oW hw 30 rfl)) (by decide) (t := (.array .int)) (t' := (.array (.object oC2))) (by decide) (by decide)
theorem own_sn1004 {Z : State} {a0 : Array Value} (hw : oH Z a0) : oO Z oC0 "end" "[I" ≠ oO Z oC0 "outboxes" oC4 := slot_ne (Or.inl (oW hw 70 rfl)) (Or.inr (oW hw 30 rfl)) (by decide) (t := (.array .int)) (t' := (.array (.object oC2))) (by decide) (by decide)
theorem own_sn1005 {Z : State} {a0 : Array Value} (hw : oH Z a0) : oO Z oC0 "senders" "[I" ≠ oO Z oC0 "outboxes" oC4 := slot_ne (Or.inl (oW hw 130 rfl)) (Or.inr (oW hw 30 rfl)) (by decide) (t := (.array .int)) (t' := (.array (.object oC2))) (by decide) (by decide)
theorem own_sn1006 {Z : State} {a0 : Array Value} (hw : oH Z a0) : oO Z oC0 "messages" "[J" ≠ oO Z oC0 "outboxes" oC4 := slot_ne (Or.inl (oW hw 132 rfl)) (Or.inr (oW hw 30 rfl)) (by decide) (t := (.array .long)) (t' := (.array (.object oC2))) (by decide) (by decide)
theorem own_sn1007 {Z : State} {a0 : Array Value} (hw : oH Z a0) : oO Z oC0 "delivered" "I" ≠ oO Z oC0 "outboxes" oC4 := slot_ne (Or.inl (oW hw 128 rfl)) (Or.inr (oW hw 30 rfl)) (by decide) (t := .int) (t' := (.array (.object oC2))) (by decide) (by decide)
theorem own_sn1008 {Z : State} {a0 : Array Value} (hw : oH Z a0) : oO Z oC0 "receivers" "I" ≠ oO Z oC0 "recipients" oC6 := slot_ne (Or.inr (oW hw 24 rfl)) (Or.inr (oW hw 63 rfl)) (by decide) (t := .int) (t' := (.object oC1)) (by decide) (by decide)
theorem own_sn1009 {Z : State} {a0 : Array Value} (hw : oH Z a0) : oO Z oC0 "senderKind" oC12 ≠ oO Z oC0 "recipients" oC6 := slot_ne (Or.inr (oW hw 26 rfl)) (Or.inr (oW hw 63 rfl)) (by decide) (t := (.object oC13)) (t' := (.object oC1)) (by decide) (by decide)
theorem own_sn1010 {Z : State} {a0 : Array Value} (hw : oH Z a0) : oO Z oC0 "outboxes" oC4 ≠ oO Z oC0 "recipients" oC6 := slot_ne (Or.inr (oW hw 30 rfl)) (Or.inr (oW hw 63 rfl)) (by decide) (t := (.array (.object oC2))) (t' := (.object oC1)) (by decide) (by decide)
theorem own_sn1011 {Z : State} {a0 : Array Value} (hw : oH Z a0) : oO Z oC0 "first" "[I" ≠ oO Z oC0 "recipients" oC6 := slot_ne (Or.inl (oW hw 134 rfl)) (Or.inr (oW hw 63 rfl)) (by decide) (t := (.array .int)) (t' := (.object oC1)) (by decide) (by decide)
theorem own_sn1012 {Z : State} {a0 : Array Value} (hw : oH Z a0) : oO Z oC0 "end" "[I" ≠ oO Z oC0 "recipients" oC6 := slot_ne (Or.inl (oW hw 70 rfl)) (Or.inr (oW hw 63 rfl)) (by decide) (t := (.array .int)) (t' := (.object oC1)) (by decide) (by decide)
theorem own_sn1013 {Z : State} {a0 : Array Value} (hw : oH Z a0) : oO Z oC0 "senders" "[I" ≠ oO Z oC0 "recipients" oC6 := slot_ne (Or.inl (oW hw 130 rfl)) (Or.inr (oW hw 63 rfl)) (by decide) (t := (.array .int)) (t' := (.object oC1)) (by decide) (by decide)
theorem own_sn1014 {Z : State} {a0 : Array Value} (hw : oH Z a0) : oO Z oC0 "messages" "[J" ≠ oO Z oC0 "recipients" oC6 := slot_ne (Or.inl (oW hw 132 rfl)) (Or.inr (oW hw 63 rfl)) (by decide) (t := (.array .long)) (t' := (.object oC1)) (by decide) (by decide)
theorem own_sn1015 {Z : State} {a0 : Array Value} (hw : oH Z a0) : oO Z oC0 "delivered" "I" ≠ oO Z oC0 "recipients" oC6 := slot_ne (Or.inl (oW hw 128 rfl)) (Or.inr (oW hw 63 rfl)) (by decide) (t := .int) (t' := (.object oC1)) (by decide) (by decide)
theorem d2_0 : oQ oD33 0 (.aload_n 0) 1 := by decide +kernel
theorem d2_1 : oQ oD33 1 (.invokespecial 3) 3 := by decide +kernel
theorem d2_4 : oQ oD33 4 (.aload_n 0) 1 := by decide +kernel
theorem d2_5 : oQ oD33 5 (.iload_n 1) 1 := by decide +kernel
theorem d2_6 : oQ oD33 6 (.putfield 9) 3 := by decide +kernel
theorem d2_9 : oQ oD33 9 (.aload_n 0) 1 := by decide +kernel
theorem d2_10 : oQ oD33 10 (.aload_n 3) 1 := by decide +kernel
theorem d2_11 : oQ oD33 11 (.putfield 15) 3 := by decide +kernel
theorem d2_14 : oQ oD33 14 (.aload_n 0) 1 := by decide +kernel
theorem d2_15 : oQ oD33 15 (.iload_n 2) 1 := by decide +kernel
theorem d2_16 : oQ oD33 16 (.anewarray 19) 3 := by decide +kernel
theorem d2_19 : oQ oD33 19 (.putfield 21) 3 := by decide +kernel
theorem d2_22 : oQ oD33 22 (.aload_n 0) 1 := by decide +kernel
theorem d2_23 : oQ oD33 23 (.new 25) 3 := by decide +kernel
theorem d2_26 : oQ oD33 26 .dup 1 := by decide +kernel
theorem d2_27 : oQ oD33 27 (.iload_n 1) 1 := by decide +kernel
theorem d2_28 : oQ oD33 28 (.invokestatic 27) 3 := by decide +kernel
theorem d2_31 : oQ oD33 31 (.invokespecial 33) 3 := by decide +kernel
theorem d2_34 : oQ oD33 34 (.putfield 36) 3 := by decide +kernel
theorem d2_37 : oQ oD33 37 .return_ 1 := by decide +kernel
theorem pn_2 : plainName oC0 = true := by first | (simp [plainName, overriddenIn]; done) | decide +kernel
theorem ef_2_2Int32 (m : MethodId) (r0 : Addr) (p1 : Int32) (r3 : Addr) : entryFrame m #[(.ref r0), (.int p1), (.int 2), (.ref r3)] 4 = mkF m 0 #[oR r0, oI p1, oI 2, oR r3] [] := by first | (simp [entryFrame, mkF, argsToLocals, Value.category]; done) | rfl
def rm2_room : Room := { frames := 3, cells := 6, slots := 75, locals := 41 }
def Qrm2 (Z : State) (r0 : Addr) (p1 : Int32) (r3 : Addr) (h0 : Heap) (n0 : Nat) (v : Option Value) (h : Heap) (L : List Loc) : Prop := ∃ ob : Addr, ∃ rv : Addr, ∃ il : Addr, ∃ ix : Addr, ∃ wd : Addr, ∃ hd : Addr, v = none ∧ Fr n0 L ∧ h0.size ≤ h.size ∧ Exa Z h r0 oC0 ∧ Fld Z h r0 oC0 "receivers" "I" (.int p1) ∧ Fld Z h r0 oC0 "outboxes" oC4 (.ref ob) ∧ Fld Z h r0 oC0 "recipients" oC6 (.ref rv) ∧ Fld Z h r0 oC0 "first" "[I" .null ∧ Fld Z h r0 oC0 "end" "[I" .null ∧ Fld Z h r0 oC0 "senders" "[I" .null ∧ Fld Z h r0 oC0 "messages" "[J" .null ∧ Fld Z h r0 oC0 "delivered" "I" (.int 0) ∧ own_Oa Z h ob oC2 .null .null ∧ Exa Z h rv oC1 ∧ Fld Z h rv oC1 "words" "[J" (.ref wd) ∧ Fld Z h rv oC1 "held" "[Z" (.ref hd) ∧ Fld Z h rv oC1 "blocks" oC5 (.ref il) ∧ Fld Z h rv oC1 "sorted" "Z" (.int 1) ∧ Exa Z h il oC3 ∧ Fld Z h il oC3 "indices" "[I" (.ref ix) ∧ Fld Z h il oC3 "size" "I" (.int 0) ∧ own_Arf Z h ix .int (16 : Int32) (fun i => .int ((fun _ => (0 : Int32)) i)) ∧ own_Arf Z h wd .long ((own_f4 p1) * (16 : Int32)) (fun i => .long ((fun _ => (0 : Int64)) i)) ∧ own_Arf Z h hd .boolean (own_f4 p1) (fun i => .int ((fun _ => (0 : Int32)) i)) ∧ n0 ≤ ob ∧ n0 ≤ rv ∧ n0 ≤ il ∧ n0 ≤ ix ∧ n0 ≤ wd ∧ n0 ≤ hd
set_option maxRecDepth 65536 in
set_option maxHeartbeats 40000000 in
theorem rm2 (l : Launch) (Z : State) (a0 : Array Value) (hw : oH Z a0) (ws : List Jvm.Cond) (r0 : Addr) (p1 : Int32) (r3 : Addr) (h0 : Heap) (n0 : Nat) (Z0 : n0 ≤ h0.size) (E_r0_0 : Exa Z h0 r0 oC0) (F_receivers_r0_0 : Fld Z h0 r0 oC0 "receivers" "I" (.int 0)) (F_senderKind_r0_0 : Fld Z h0 r0 oC0 "senderKind" oC12 .null) (F_outboxes_r0_0 : Fld Z h0 r0 oC0 "outboxes" oC4 .null) (F_recipients_r0_0 : Fld Z h0 r0 oC0 "recipients" oC6 .null) (F_first_r0_0 : Fld Z h0 r0 oC0 "first" "[I" .null) (F_end_r0_0 : Fld Z h0 r0 oC0 "end" "[I" .null) (F_senders_r0_0 : Fld Z h0 r0 oC0 "senders" "[I" .null) (F_messages_r0_0 : Fld Z h0 r0 oC0 "messages" "[J" .null) (F_delivered_r0_0 : Fld Z h0 r0 oC0 "delivered" "I" (.int 0)) (ge_r0 : n0 ≤ r0) (hn : own_nn p1 (own_f4 p1)) :
    MetFree l oM33 (head1 (Jvm.Cond.code oM33 prog_18_method_1_code 4 none :: ws) rm2_room) (fun a U => a = #[(.ref r0), (.int p1), (.int 2), (.ref r3)] ∧ Z.Warmed39 U.vm ∧ U.heap = h0) (fun _ _ _ _ _ => True) (fun _ U o U' => ∃ v L, o = .returned v ∧ Qrm2 Z r0 p1 r3 h0 n0 v U'.heap L ∧ FrameEnd U o U' L rm2_room.cells rm2_room.slots) := by
 refine MetFree.of_bodySF (plainFor_of_name pn_2) hisR ?_
 intro p e s m args below meth c s₁ Bd hml0 hP hK
 obtain ⟨rfl, hZ, hh⟩ := hP
 have hx := Bd.exec
 have hby := Bd.bytes
 have hml : c.maxLocals = 4 := hml0
 have hown : s.vm.findClass oC0 = some m.cls := findClass_of_methodNamed Bd.named
 have hnm := (name_of_methodNamed Bd.named Bd.method).1
 have hlk : meth.locks = false := BodyLoose.notSynchronized Bd
 have X0 : Stand p l e rm2_room s m #[(.ref r0), (.int p1), (.int 2), (.ref r3)] below meth c s₁ [] 0 0 := Stand.of_body Bd
 have e0 : s₁.heap = h0 := by rw [← hh, Bd.state]; rfl
 have N0 := Fr.nil n0
 show own_Fin p.tables e below s (Qrm2 Z r0 p1 r3 h0 n0) rm2_room.cells rm2_room.slots (s₁.setTop (entryFrame m #[(.ref r0), (.int p1), (.int 2), (.ref r3)] 4))
 rw [ef_2_2Int32]
 show oF (s₁.setTop (mkF m 0 #[oR r0, oI p1, oI 2, oR r3] []))
 refine own_go (fun _ k => XS.aloadN X0.here hx rfl (hb hby d2_0) rfl rfl k) ?_
 obtain ⟨T1, X1, e1, st1⟩ := initO X0 hx hZ hown (oW hw 20 rfl) (oW hw 21 rfl) (oW hw 22 rfl) e0 (g := (mkF m 1 #[oR r0, oI p1, oI 2, oR r3] [(.ref r0)])) rfl (by rw [hml]; rfl) rfl (hb hby d2_1) (by decide) (W := 0) (by show 2 * 0 + _ ≤ _; exact Nat.le_of_eq rfl) (by decide)
 refine own_go (fun tg k => st1 tg k) ?_
 show oF (T1.setTop (mkF m 4 #[oR r0, oI p1, oI 2, oR r3] []))
 refine own_go (fun _ k => XS.aloadN X1.here hx rfl (hb hby d2_4) rfl rfl (XS.iloadN X1.here hx rfl (hb hby d2_5) rfl k)) ?_
 obtain ⟨T2, h2, X2, e2, W2, st2⟩ := putF X1 hx hZ hown (host := "") (Or.inl (oW hw 23 rfl)) Via.refl e1 F_receivers_r0_0 E_r0_0 (Or.inr ⟨(oW hw 24 rfl), rfl, hnm⟩) (oW hw 7 rfl) (ty := .int) (by decide) rfl rfl (g := (mkF m 6 #[oR r0, oI p1, oI 2, oR r3] [(.int p1), (.ref r0)])) rfl rfl (hb hby d2_6)
 have E_r0_2 := E_r0_0.wr W2
 have F_senderKind_r0_2 := F_senderKind_r0_0.other W2 (Or.inr (own_sn984 hw))
 have F_outboxes_r0_2 := F_outboxes_r0_0.other W2 (Or.inr (own_sn985 hw))
 have F_recipients_r0_2 := F_recipients_r0_0.other W2 (Or.inr (own_sn986 hw))
 have F_first_r0_2 := F_first_r0_0.other W2 (Or.inr (own_sn987 hw))
 have F_end_r0_2 := F_end_r0_0.other W2 (Or.inr (own_sn988 hw))
 have F_senders_r0_2 := F_senders_r0_0.other W2 (Or.inr (own_sn989 hw))
 have F_messages_r0_2 := F_messages_r0_0.other W2 (Or.inr (own_sn990 hw))
 have F_delivered_r0_2 := F_delivered_r0_0.other W2 (Or.inr (own_sn991 hw))
 have N2 := Fr.snoc X2 N0 ge_r0
 have Z2 : n0 ≤ h2.size := Nat.le_trans Z0 (Keep.of_wr W2).1
 have F_receivers_r0_2 := F_receivers_r0_0.same W2
 refine own_go (fun tg k => st2 tg k) ?_
 refine own_go (fun _ k => XS.aloadN X2.here hx rfl (hb hby d2_9) rfl rfl (XS.aloadN X2.here hx rfl (hb hby d2_10) rfl rfl k)) ?_
 obtain ⟨T3, h3, X3, e3, W3, st3⟩ := putF X2 hx hZ hown (host := "") (Or.inl (oW hw 25 rfl)) Via.refl e2 F_senderKind_r0_2 E_r0_2 (Or.inr ⟨(oW hw 26 rfl), rfl, hnm⟩) (oW hw 7 rfl) (ty := (.object oC13)) (by decide) rfl rfl (g := (mkF m 11 #[oR r0, oI p1, oI 2, oR r3] [(.ref r3), (.ref r0)])) rfl rfl (hb hby d2_11)
 have E_r0_3 := E_r0_2.wr W3
 have F_receivers_r0_3 := F_receivers_r0_2.other W3 (Or.inr (own_sn992 hw))
 have F_outboxes_r0_3 := F_outboxes_r0_2.other W3 (Or.inr (own_sn993 hw))
 have F_recipients_r0_3 := F_recipients_r0_2.other W3 (Or.inr (own_sn994 hw))
 have F_first_r0_3 := F_first_r0_2.other W3 (Or.inr (own_sn995 hw))
 have F_end_r0_3 := F_end_r0_2.other W3 (Or.inr (own_sn996 hw))
 have F_senders_r0_3 := F_senders_r0_2.other W3 (Or.inr (own_sn997 hw))
 have F_messages_r0_3 := F_messages_r0_2.other W3 (Or.inr (own_sn998 hw))
 have F_delivered_r0_3 := F_delivered_r0_2.other W3 (Or.inr (own_sn999 hw))
 have N3 := Fr.snoc X3 N2 ge_r0
 have Z3 : n0 ≤ h3.size := Nat.le_trans Z2 (Keep.of_wr W3).1
 have F_senderKind_r0_3 := F_senderKind_r0_2.same W3
 refine own_go (fun tg k => st3 tg k) ?_
 refine own_go (fun _ k => XS.aloadN X3.here hx rfl (hb hby d2_14) rfl rfl (XS.iloadN X3.here hx rfl (hb hby d2_15) rfl k)) ?_
 obtain ⟨T4, h4, k4, X4, e4, E4, A4, O4, st4⟩ := newR X3 hx hZ hown (oW hw 27 rfl) (oW hw 28 rfl) e3 (g := (mkF m 16 #[oR r0, oI p1, oI 2, oR r3] [(.int 2), (.ref r0)])) rfl (hb hby d2_16) rfl (by decide) (cap := 2) (by decide) (by decide) (by decide) (by decide)
 obtain ⟨b4, g4⟩ : ∃ z, z = h3.size := ⟨_, rfl⟩
 rw [← g4] at A4 st4
 have ne_r0_b4 : r0 ≠ b4 := Nat.ne_of_lt (Nat.lt_of_lt_of_le E_r0_3.lt (Nat.le_of_eq g4.symm))
 have ge_b4 : n0 ≤ b4 := Nat.le_trans Z3 (Nat.le_of_eq g4.symm)
 have E_r0_4 := E_r0_3.ext E4
 have F_receivers_r0_4 := F_receivers_r0_3.ext E4
 have F_senderKind_r0_4 := F_senderKind_r0_3.ext E4
 have F_outboxes_r0_4 := F_outboxes_r0_3.ext E4
 have F_recipients_r0_4 := F_recipients_r0_3.ext E4
 have F_first_r0_4 := F_first_r0_3.ext E4
 have F_end_r0_4 := F_end_r0_3.ext E4
 have F_senders_r0_4 := F_senders_r0_3.ext E4
 have F_messages_r0_4 := F_messages_r0_3.ext E4
 have F_delivered_r0_4 := F_delivered_r0_3.ext E4
 have Z4 : n0 ≤ h4.size := Nat.le_trans Z3 E4.1
 have O_b4_4 := own_Oa.new A4 O4
 refine own_go (fun tg k => st4 tg k) ?_
 obtain ⟨T5, h5, X5, e5, W5, st5⟩ := putF X4 hx hZ hown (host := "") (Or.inl (oW hw 29 rfl)) Via.refl e4 F_outboxes_r0_4 E_r0_4 (Or.inr ⟨(oW hw 30 rfl), rfl, hnm⟩) (oW hw 7 rfl) (ty := (.array (.object oC2))) (by decide) rfl rfl (g := (mkF m 19 #[oR r0, oI p1, oI 2, oR r3] [(.ref b4), (.ref r0)])) rfl rfl (hb hby d2_19)
 have E_r0_5 := E_r0_4.wr W5
 have F_receivers_r0_5 := F_receivers_r0_4.other W5 (Or.inr (own_sn1000 hw))
 have F_senderKind_r0_5 := F_senderKind_r0_4.other W5 (Or.inr (own_sn1001 hw))
 have F_recipients_r0_5 := F_recipients_r0_4.other W5 (Or.inr (own_sn1002 hw))
 have F_first_r0_5 := F_first_r0_4.other W5 (Or.inr (own_sn1003 hw))
 have F_end_r0_5 := F_end_r0_4.other W5 (Or.inr (own_sn1004 hw))
 have F_senders_r0_5 := F_senders_r0_4.other W5 (Or.inr (own_sn1005 hw))
 have F_messages_r0_5 := F_messages_r0_4.other W5 (Or.inr (own_sn1006 hw))
 have F_delivered_r0_5 := F_delivered_r0_4.other W5 (Or.inr (own_sn1007 hw))
 have O_b4_5 := O_b4_4.other W5 (Ne.symm ne_r0_b4)
 have N5 := Fr.snoc X5 N3 ge_r0
 have Z5 : n0 ≤ h5.size := Nat.le_trans Z4 (Keep.of_wr W5).1
 have F_outboxes_r0_5 := F_outboxes_r0_4.same W5
 refine own_go (fun tg k => st5 tg k) ?_
 refine own_go (fun _ k => XS.aloadN X5.here hx rfl (hb hby d2_22) rfl rfl k) ?_
 obtain ⟨T6, h6, X6, e6, E6, A6, D6, -, st6⟩ := newO X5 hx hZ hown (oW hw 31 rfl) (oW hw 32 rfl) (oW hw 33 rfl) e5 (g := (mkF m 23 #[oR r0, oI p1, oI 2, oR r3] [(.ref r0)])) rfl (hb hby d2_23) (by decide) (by decide)
 obtain ⟨b6, g6⟩ : ∃ z, z = h5.size := ⟨_, rfl⟩
 rw [← g6] at A6 D6 st6
 have ne_r0_b6 : r0 ≠ b6 := Nat.ne_of_lt (Nat.lt_of_lt_of_le E_r0_5.lt (Nat.le_of_eq g6.symm))
 have ne_b4_b6 : b4 ≠ b6 := Nat.ne_of_lt (Nat.lt_of_lt_of_le O_b4_5.lt (Nat.le_of_eq g6.symm))
 have ge_b6 : n0 ≤ b6 := Nat.le_trans Z5 (Nat.le_of_eq g6.symm)
 have E_r0_6 := E_r0_5.ext E6
 have F_receivers_r0_6 := F_receivers_r0_5.ext E6
 have F_senderKind_r0_6 := F_senderKind_r0_5.ext E6
 have F_outboxes_r0_6 := F_outboxes_r0_5.ext E6
 have F_recipients_r0_6 := F_recipients_r0_5.ext E6
 have F_first_r0_6 := F_first_r0_5.ext E6
 have F_end_r0_6 := F_end_r0_5.ext E6
 have F_senders_r0_6 := F_senders_r0_5.ext E6
 have F_messages_r0_6 := F_messages_r0_5.ext E6
 have F_delivered_r0_6 := F_delivered_r0_5.ext E6
 have O_b4_6 := O_b4_5.ext E6
 have Z6 : n0 ≤ h6.size := Nat.le_trans Z5 E6.1
 have E_b6_6 : Exa Z h6 b6 oC1 := A6
 have F_blocks_b6_6 : Fld Z h6 b6 oC1 "blocks" oC5 .null := D6 (Or.inr (oW hw 53 rfl)) (ty := (.object oC3)) (by decide)
 have F_sorted_b6_6 : Fld Z h6 b6 oC1 "sorted" "Z" (.int 0) := D6 (Or.inl (oW hw 55 rfl)) (ty := .boolean) (by decide)
 have F_words_b6_6 : Fld Z h6 b6 oC1 "words" "[J" .null := D6 (Or.inr (oW hw 58 rfl)) (ty := (.array .long)) (by decide)
 have F_held_b6_6 : Fld Z h6 b6 oC1 "held" "[Z" .null := D6 (Or.inr (oW hw 61 rfl)) (ty := (.array .boolean)) (by decide)
 refine own_go (fun tg k => st6 tg k) ?_
 refine own_go (fun _ k => XS.dup X6.here hx rfl (hb hby d2_26) rfl rfl (XS.iloadN X6.here hx rfl (hb hby d2_27) rfl k)) ?_
 have cq := Jvm.LawKit.callS X6 hx (y := oM0) hown (mvT hZ (oW hw 34 rfl)) (mvT hZ (oW hw 35 rfl)) (mvT hZ (oW hw 36 rfl)) (mvT hZ (oW hw 37 rfl)) (by decide) (backOf (W := 3) (rm4 l Z a0 hw [] p1 h6 n0 Z6) hZ (oW hw 37 rfl) (oW hw 36 rfl) (by decide) (by decide)) (g := (mkF m 28 #[oR r0, oI p1, oI 2, oR r3] [(.int p1), (.ref b6), (.ref b6), (.ref r0)])) rfl (by rw [hml]; rfl) (argsL := [(.int p1)]) (rest := [(.ref b6), (.ref b6), (.ref r0)]) (lenOf own_pd90 rfl) rfl (by show 2 * 0 + _ ≤ _; exact Nat.le_of_eq rfl) (hb hby d2_28) (fun _ _ => ⟨rfl, e6, (by decide : 2 + 0 ≤ _), (by decide : 6 + 0 ≤ _)⟩)
 obtain ⟨_, _, ⟨T7, L7, k7, n7⟩, -, X7, ⟨Lc7, hQ7, l7, y7, z7⟩, st7⟩ := cq
 dsimp only [Pt.U, Pt.locs, Pt.cells, Pt.slots] at X7 l7 y7 z7 st7 hQ7
 replace y7 : 2 = k7 := y7.symm
 replace z7 : 6 = n7 := z7.symm
 subst y7 z7
 obtain ⟨rfl, N7q, e7⟩ := hQ7
 have N7 : Fr n0 L7 := by rw [l7]; exact Fr.app N5 N7q
 refine own_go (fun tg k => st7 tg k) ?_
 show oF (T7.setTop (mkF m 31 #[oR r0, oI p1, oI 2, oR r3] [(.int (own_f4 p1)), (.ref b6), (.ref b6), (.ref r0)]))
 have cq := X7.specialBack hx (y := oM10) rfl hown (mvT hZ (oW hw 38 rfl)) (mvT hZ (oW hw 39 rfl)) (mvT hZ (oW hw 40 rfl)) (by decide) (backOf (W := 2) (rm5 l Z a0 hw [] b6 (own_f4 p1) h6 n0 Z6 E_b6_6 F_words_b6_6 F_held_b6_6 F_blocks_b6_6 F_sorted_b6_6 ge_b6 (own_nb3 hn)) hZ (oW hw 40 rfl) (oW hw 33 rfl) (by decide) (by decide)) (g := (mkF m 31 #[oR r0, oI p1, oI 2, oR r3] [(.int (own_f4 p1)), (.ref b6), (.ref b6), (.ref r0)])) rfl (by rw [hml]; rfl) (Steps.refl _) (a := b6) (argsL := [(.int (own_f4 p1))]) (rest := [(.ref b6), (.ref r0)]) (lenOf own_pd302 rfl) rfl (by show 2 * 0 + _ ≤ _; exact Nat.le_of_eq rfl) (hb hby d2_31) (fun _ _ => ⟨rfl, e7, (by decide : 2 + 4 ≤ _), (by decide : 6 + 69 ≤ _)⟩)
 obtain ⟨_, _, ⟨T8, L8, k8, n8⟩, -, X8, ⟨Lc8, hQ8, l8, y8, z8⟩, st8⟩ := cq
 dsimp only [Pt.U, Pt.locs, Pt.cells, Pt.slots] at X8 l8 y8 z8 st8 hQ8
 replace y8 : 6 = k8 := y8.symm
 replace z8 : 75 = n8 := z8.symm
 subst y8 z8
 obtain ⟨b8bl, b8bi, b8bw, b8bh, rfl, N8q, Kq8, szq_b8bl, szq_b8bi, szq_b8bw, szq_b8bh, E_b6_8, F_words_b6_8, F_held_b6_8, F_blocks_b6_8, F_sorted_b6_8, E_b8bl_8, F_indices_b8bl_8, F_size_b8bl_8, A_b8bi_8, A_b8bw_8, A_b8bh_8⟩ := hQ8
 have N8 : Fr n0 L8 := by rw [l8]; exact Fr.app N7 N8q
 have ne_r0_b8bl : r0 ≠ b8bl := Nat.ne_of_lt (Nat.lt_of_lt_of_le E_r0_6.lt szq_b8bl)
 have ne_b4_b8bl : b4 ≠ b8bl := Nat.ne_of_lt (Nat.lt_of_lt_of_le O_b4_6.lt szq_b8bl)
 have ne_b6_b8bl : b6 ≠ b8bl := Nat.ne_of_lt (Nat.lt_of_lt_of_le E_b6_6.lt szq_b8bl)
 have ge_b8bl : n0 ≤ b8bl := Nat.le_trans Z6 szq_b8bl
 have ne_r0_b8bi : r0 ≠ b8bi := Nat.ne_of_lt (Nat.lt_of_lt_of_le E_r0_6.lt szq_b8bi)
 have ne_b4_b8bi : b4 ≠ b8bi := Nat.ne_of_lt (Nat.lt_of_lt_of_le O_b4_6.lt szq_b8bi)
 have ne_b6_b8bi : b6 ≠ b8bi := Nat.ne_of_lt (Nat.lt_of_lt_of_le E_b6_6.lt szq_b8bi)
 have ge_b8bi : n0 ≤ b8bi := Nat.le_trans Z6 szq_b8bi
 have ne_r0_b8bw : r0 ≠ b8bw := Nat.ne_of_lt (Nat.lt_of_lt_of_le E_r0_6.lt szq_b8bw)
 have ne_b4_b8bw : b4 ≠ b8bw := Nat.ne_of_lt (Nat.lt_of_lt_of_le O_b4_6.lt szq_b8bw)
 have ne_b6_b8bw : b6 ≠ b8bw := Nat.ne_of_lt (Nat.lt_of_lt_of_le E_b6_6.lt szq_b8bw)
 have ge_b8bw : n0 ≤ b8bw := Nat.le_trans Z6 szq_b8bw
 have ne_r0_b8bh : r0 ≠ b8bh := Nat.ne_of_lt (Nat.lt_of_lt_of_le E_r0_6.lt szq_b8bh)
 have ne_b4_b8bh : b4 ≠ b8bh := Nat.ne_of_lt (Nat.lt_of_lt_of_le O_b4_6.lt szq_b8bh)
 have ne_b6_b8bh : b6 ≠ b8bh := Nat.ne_of_lt (Nat.lt_of_lt_of_le E_b6_6.lt szq_b8bh)
 have ge_b8bh : n0 ≤ b8bh := Nat.le_trans Z6 szq_b8bh
 have E_r0_8 := E_r0_6.keep Kq8
 have F_receivers_r0_8 := F_receivers_r0_6.keep Kq8 (ninS ne_r0_b6 nin0)
 have F_senderKind_r0_8 := F_senderKind_r0_6.keep Kq8 (ninS ne_r0_b6 nin0)
 have F_outboxes_r0_8 := F_outboxes_r0_6.keep Kq8 (ninS ne_r0_b6 nin0)
 have F_recipients_r0_8 := F_recipients_r0_6.keep Kq8 (ninS ne_r0_b6 nin0)
 have F_first_r0_8 := F_first_r0_6.keep Kq8 (ninS ne_r0_b6 nin0)
 have F_end_r0_8 := F_end_r0_6.keep Kq8 (ninS ne_r0_b6 nin0)
 have F_senders_r0_8 := F_senders_r0_6.keep Kq8 (ninS ne_r0_b6 nin0)
 have F_messages_r0_8 := F_messages_r0_6.keep Kq8 (ninS ne_r0_b6 nin0)
 have F_delivered_r0_8 := F_delivered_r0_6.keep Kq8 (ninS ne_r0_b6 nin0)
 have O_b4_8 := O_b4_6.keep Kq8 (ninS ne_b4_b6 nin0)
 have Z8 : n0 ≤ T8.heap.size := Nat.le_trans Z6 Kq8.1
 refine own_go (fun tg k => st8.trans k) ?_
 show oF (T8.setTop (mkF m 34 #[oR r0, oI p1, oI 2, oR r3] [(.ref b6), (.ref r0)]))
 obtain ⟨T9, h9, X9, e9, W9, st9⟩ := putF X8 hx hZ hown (host := "") (Or.inl (oW hw 62 rfl)) Via.refl rfl F_recipients_r0_8 E_r0_8 (Or.inr ⟨(oW hw 63 rfl), rfl, hnm⟩) (oW hw 7 rfl) (ty := (.object oC1)) (by decide) rfl rfl (g := (mkF m 34 #[oR r0, oI p1, oI 2, oR r3] [(.ref b6), (.ref r0)])) rfl rfl (hb hby d2_34)
 have E_r0_9 := E_r0_8.wr W9
 have F_receivers_r0_9 := F_receivers_r0_8.other W9 (Or.inr (own_sn1008 hw))
 have F_senderKind_r0_9 := F_senderKind_r0_8.other W9 (Or.inr (own_sn1009 hw))
 have F_outboxes_r0_9 := F_outboxes_r0_8.other W9 (Or.inr (own_sn1010 hw))
 have F_first_r0_9 := F_first_r0_8.other W9 (Or.inr (own_sn1011 hw))
 have F_end_r0_9 := F_end_r0_8.other W9 (Or.inr (own_sn1012 hw))
 have F_senders_r0_9 := F_senders_r0_8.other W9 (Or.inr (own_sn1013 hw))
 have F_messages_r0_9 := F_messages_r0_8.other W9 (Or.inr (own_sn1014 hw))
 have F_delivered_r0_9 := F_delivered_r0_8.other W9 (Or.inr (own_sn1015 hw))
 have O_b4_9 := O_b4_8.other W9 (Ne.symm ne_r0_b4)
 have E_b6_9 := E_b6_8.wr W9
 have F_blocks_b6_9 := F_blocks_b6_8.other W9 (Or.inl (Ne.symm ne_r0_b6))
 have F_sorted_b6_9 := F_sorted_b6_8.other W9 (Or.inl (Ne.symm ne_r0_b6))
 have F_words_b6_9 := F_words_b6_8.other W9 (Or.inl (Ne.symm ne_r0_b6))
 have F_held_b6_9 := F_held_b6_8.other W9 (Or.inl (Ne.symm ne_r0_b6))
 have E_b8bl_9 := E_b8bl_8.wr W9
 have F_indices_b8bl_9 := F_indices_b8bl_8.other W9 (Or.inl (Ne.symm ne_r0_b8bl))
 have F_size_b8bl_9 := F_size_b8bl_8.other W9 (Or.inl (Ne.symm ne_r0_b8bl))
 have A_b8bi_9 := A_b8bi_8.other W9 (Ne.symm ne_r0_b8bi)
 have A_b8bw_9 := A_b8bw_8.other W9 (Ne.symm ne_r0_b8bw)
 have A_b8bh_9 := A_b8bh_8.other W9 (Ne.symm ne_r0_b8bh)
 have N9 := Fr.snoc X9 N8 ge_r0
 have Z9 : n0 ≤ h9.size := Nat.le_trans Z8 (Keep.of_wr W9).1
 have F_recipients_r0_9 := F_recipients_r0_8.same W9
 refine own_go (fun tg k => st9 tg k) ?_
 refine own_retV X9 hx hlk Bd.returns (hb hby d2_37) (Nat.le_of_ble_eq_true rfl) (Nat.le_of_ble_eq_true rfl) ?_
 rw [e9]
 refine ⟨b4, b6, b8bl, b8bi, b8bw, b8bh, rfl, N9, (by have q : s.heap.size ≤ T9.heap.size := X9.same.2.1; rw [hh, e9] at q; exact q), E_r0_9, ?_, ?_, ?_, ?_, ?_, ?_, ?_, ?_, ?_, E_b6_9, ?_, ?_, ?_, ?_, E_b8bl_9, ?_, ?_, ?_, ?_, ?_, ge_b4, ge_b6, ge_b8bl, ge_b8bi, ge_b8bw, ge_b8bh⟩
 · (exact F_receivers_r0_9)
 · (exact F_outboxes_r0_9)
 · (exact F_recipients_r0_9)
 · (exact F_first_r0_9)
 · (exact F_end_r0_9)
 · (exact F_senders_r0_9)
 · (exact F_messages_r0_9)
 · (exact F_delivered_r0_9)
 · (exact O_b4_9)
 · (exact F_words_b6_9)
 · (exact F_held_b6_9)
 · (exact F_blocks_b6_9)
 · (exact F_sorted_b6_9)
 · (exact F_indices_b8bl_9)
 · (exact F_size_b8bl_9)
 · (exact A_b8bi_9)
 · (exact A_b8bw_9)
 · (exact A_b8bh_9)
theorem own_pd1038 : parseMethodDescriptor "(JII)I" = some ⟨[.long, .int, .int], some .int⟩ := by decide +kernel
theorem own_pd1039 : parseMethodDescriptor "(IILjava/lang/String;)V" = some ⟨[.int, .int, (.object oC13)], none⟩ := by decide +kernel
theorem own_pd1040 : parseMethodDescriptor "(IIIJ)V" = some ⟨[.int, .int, .int, .long], none⟩ := by decide +kernel
theorem own_pd1041 : parseMethodDescriptor "(I)Z" = some ⟨[.int], some .boolean⟩ := by decide +kernel
theorem own_pd1042 : parseMethodDescriptor "(ZZ)I" = some ⟨[.boolean, .boolean], some .int⟩ := by decide +kernel
theorem pn_0 : plainName oC7 = true := by first | (simp [plainName, overriddenIn]; done) | decide +kernel
theorem ef_0 (m : MethodId) (p0 : Int32) (q1 : Int64) (p2 : Int32) (p3 : Int32) (p4 : Int32) (q5 : Int64) : entryFrame m #[(.int p0), (.long q1), (.int p2), (.int p3), (.int p4), (.long q5)] maxLocals = mkF m 0 #[oI p0, oJ q1, oS, oI p2, oI p3, oI p4, oJ q5, oS, oU, oU, oU, oU, oU, oU, oU, oU, oU, oU, oU, oU, oU, oU, oU, oU, oU, oU, oU] [] := by first | (simp [entryFrame, mkF, argsToLocals, Value.category, maxLocals]; done) | rfl
def own_f0 (p0 : Int32) (q1 : Int64) (p2 : Int32) (p3 : Int32) (p4 : Int32) (q5 : Int64) : Int32 := let z1 := ((1 : Int32) + ((p0 &&& (2147483647 : Int32)) % (3072 : Int32))); let z2 := ((p2 &&& (7 : Int32)) % (5 : Int32)); let z4 := (own_f1 q1 (0 : Int32) z1); let z6 := (own_f1 q1 (1 : Int32) z1); let z8 := (own_f1 q1 (2 : Int32) z1); let z10 := (own_f1 q1 (3 : Int32) z1); let z11 := ((own_iushr p2 (3 : Int32)) &&& (1 : Int32)); let z12 := ((own_iushr p2 (4 : Int32)) &&& (1 : Int32)); let z13 := ((own_iushr p2 (5 : Int32)) &&& (1 : Int32)); let z14 := ((own_iushr p2 (6 : Int32)) &&& (1 : Int32)); let z22 := (if (p3 &&& (7 : Int32)) = (0 : Int32) then z4 else (if (p3 &&& (7 : Int32)) = (1 : Int32) then z6 else (if (p3 &&& (7 : Int32)) = (2 : Int32) then z8 else (if (p3 &&& (7 : Int32)) = (3 : Int32) then z10 else ((own_iushr p3 (3 : Int32)) % z1))))); let z28 := (if ((fun _ => (0 : Int32)) z22.toNatClampNeg) = (0 : Int32) then (1 : Int32) else (0 : Int32)); let f33 := (if (0 : Int32) < z2 then (own_psh z11 (0 : Int32) [] z4) else []); let f34 := (if (0 : Int32) < z2 then (own_psh z11 (1 : Int32) [] z4) else []); let f39 := (if (1 : Int32) < z2 then (own_psh z12 (0 : Int32) f33 z6) else f33); let f40 := (if (1 : Int32) < z2 then (own_psh z12 (1 : Int32) f34 z6) else f34); let f45 := (if (2 : Int32) < z2 then (own_psh z13 (0 : Int32) f39 z8) else f39); let f46 := (if (2 : Int32) < z2 then (own_psh z13 (1 : Int32) f40 z8) else f40); let f51 := (if (3 : Int32) < z2 then (own_psh z14 (0 : Int32) f45 z10) else f45); let f52 := (if (3 : Int32) < z2 then (own_psh z14 (1 : Int32) f46 z10) else f46); let z55 := (z28 &&& (if (own_dr f51 f52) = (if (0 : Int32) < z2 then (1 : Int32) else (0 : Int32)) then (1 : Int32) else (0 : Int32))); let z58 := ((own_f25 (if (0 : Int32) < z2 then (1 : Int32) else (0 : Int32)) (if z4 = z22 then (1 : Int32) else (0 : Int32))) + (own_f25 (if (1 : Int32) < z2 then (1 : Int32) else (0 : Int32)) (if z6 = z22 then (1 : Int32) else (0 : Int32)))); let z61 := ((z58 + (own_f25 (if (2 : Int32) < z2 then (1 : Int32) else (0 : Int32)) (if z8 = z22 then (1 : Int32) else (0 : Int32)))) + (own_f25 (if (3 : Int32) < z2 then (1 : Int32) else (0 : Int32)) (if z10 = z22 then (1 : Int32) else (0 : Int32)))); let z64 := ((own_f25 (if (0 : Int32) < z2 then (1 : Int32) else (0 : Int32)) (if z22 < z4 then (0 : Int32) else (1 : Int32))) + (own_f25 (if (1 : Int32) < z2 then (1 : Int32) else (0 : Int32)) (if z22 < z6 then (0 : Int32) else (1 : Int32)))); let z67 := ((z64 + (own_f25 (if (2 : Int32) < z2 then (1 : Int32) else (0 : Int32)) (if z22 < z8 then (0 : Int32) else (1 : Int32)))) + (own_f25 (if (3 : Int32) < z2 then (1 : Int32) else (0 : Int32)) (if z22 < z10 then (0 : Int32) else (1 : Int32)))); let z71 := (if z61 = (0 : Int32) then (0 : Int32) else z67); let z73 := (z55 &&& (if ((own_EEf (f51 ++ f52)) z22.toNatClampNeg) = z71 then (1 : Int32) else (0 : Int32))); let z76 := ((z73 &&& (1 : Int32)) &&& (if ((fun _ => (0 : Int32)) z22.toNatClampNeg) = (0 : Int32) then (1 : Int32) else (0 : Int32))); z76
theorem own_lf_own_f0_1 {p0 : Int32} {q1 : Int64} {p2 : Int32} {p3 : Int32} {p4 : Int32} {q5 : Int64} {z1 : Int32} {z2 : Int32} {z4 : Int32} {z6 : Int32} {z8 : Int32} {z10 : Int32} {z11 : Int32} {z12 : Int32} {z13 : Int32} {z14 : Int32} {z22 : Int32} {z28 : Int32} {f33 : List Int32} {f34 : List Int32} {f39 : List Int32} {f40 : List Int32} {f45 : List Int32} {f46 : List Int32} {f51 : List Int32} {f52 : List Int32} {z55 : Int32} {z58 : Int32} {z61 : Int32} {z64 : Int32} {z67 : Int32} {z71 : Int32} {z73 : Int32} {z76 : Int32} (hz1 : ((1 : Int32) + ((p0 &&& (2147483647 : Int32)) % (3072 : Int32))) = z1) (hz2 : ((p2 &&& (7 : Int32)) % (5 : Int32)) = z2) (hz4 : (own_f1 q1 (0 : Int32) z1) = z4) (hz6 : (own_f1 q1 (1 : Int32) z1) = z6) (hz8 : (own_f1 q1 (2 : Int32) z1) = z8) (hz10 : (own_f1 q1 (3 : Int32) z1) = z10) (hz11 : ((own_iushr p2 (3 : Int32)) &&& (1 : Int32)) = z11) (hz12 : ((own_iushr p2 (4 : Int32)) &&& (1 : Int32)) = z12) (hz13 : ((own_iushr p2 (5 : Int32)) &&& (1 : Int32)) = z13) (hz14 : ((own_iushr p2 (6 : Int32)) &&& (1 : Int32)) = z14) (hz22 : (if (p3 &&& (7 : Int32)) = (0 : Int32) then z4 else (if (p3 &&& (7 : Int32)) = (1 : Int32) then z6 else (if (p3 &&& (7 : Int32)) = (2 : Int32) then z8 else (if (p3 &&& (7 : Int32)) = (3 : Int32) then z10 else ((own_iushr p3 (3 : Int32)) % z1))))) = z22) (hz28 : (if ((fun _ => (0 : Int32)) z22.toNatClampNeg) = (0 : Int32) then (1 : Int32) else (0 : Int32)) = z28) (hf33 : f33 = (if (0 : Int32) < z2 then (own_psh z11 (0 : Int32) [] z4) else [])) (hf34 : f34 = (if (0 : Int32) < z2 then (own_psh z11 (1 : Int32) [] z4) else [])) (hf39 : f39 = (if (1 : Int32) < z2 then (own_psh z12 (0 : Int32) f33 z6) else f33)) (hf40 : f40 = (if (1 : Int32) < z2 then (own_psh z12 (1 : Int32) f34 z6) else f34)) (hf45 : f45 = (if (2 : Int32) < z2 then (own_psh z13 (0 : Int32) f39 z8) else f39)) (hf46 : f46 = (if (2 : Int32) < z2 then (own_psh z13 (1 : Int32) f40 z8) else f40)) (hf51 : f51 = (if (3 : Int32) < z2 then (own_psh z14 (0 : Int32) f45 z10) else f45)) (hf52 : f52 = (if (3 : Int32) < z2 then (own_psh z14 (1 : Int32) f46 z10) else f46)) (hz55 : (z28 &&& (if (own_dr f51 f52) = (if (0 : Int32) < z2 then (1 : Int32) else (0 : Int32)) then (1 : Int32) else (0 : Int32))) = z55) (hz58 : ((own_f25 (if (0 : Int32) < z2 then (1 : Int32) else (0 : Int32)) (if z4 = z22 then (1 : Int32) else (0 : Int32))) + (own_f25 (if (1 : Int32) < z2 then (1 : Int32) else (0 : Int32)) (if z6 = z22 then (1 : Int32) else (0 : Int32)))) = z58) (hz61 : ((z58 + (own_f25 (if (2 : Int32) < z2 then (1 : Int32) else (0 : Int32)) (if z8 = z22 then (1 : Int32) else (0 : Int32)))) + (own_f25 (if (3 : Int32) < z2 then (1 : Int32) else (0 : Int32)) (if z10 = z22 then (1 : Int32) else (0 : Int32)))) = z61) (hz64 : ((own_f25 (if (0 : Int32) < z2 then (1 : Int32) else (0 : Int32)) (if z22 < z4 then (0 : Int32) else (1 : Int32))) + (own_f25 (if (1 : Int32) < z2 then (1 : Int32) else (0 : Int32)) (if z22 < z6 then (0 : Int32) else (1 : Int32)))) = z64) (hz67 : ((z64 + (own_f25 (if (2 : Int32) < z2 then (1 : Int32) else (0 : Int32)) (if z22 < z8 then (0 : Int32) else (1 : Int32)))) + (own_f25 (if (3 : Int32) < z2 then (1 : Int32) else (0 : Int32)) (if z22 < z10 then (0 : Int32) else (1 : Int32)))) = z67) (hz71 : (if z61 = (0 : Int32) then (0 : Int32) else z67) = z71) (hz73 : (z55 &&& (if ((own_EEf (f51 ++ f52)) z22.toNatClampNeg) = z71 then (1 : Int32) else (0 : Int32))) = z73) (hz76 : ((z73 &&& (1 : Int32)) &&& (if ((fun _ => (0 : Int32)) z22.toNatClampNeg) = (0 : Int32) then (1 : Int32) else (0 : Int32))) = z76) : (some (.int z76) : Option Value) = some (.int (own_f0 p0 q1 p2 p3 p4 q5)) := by
  subst hz76
  subst hz73
  subst hz71
  subst hz67
  subst hz64
  subst hz61
  subst hz58
  subst hz55
  subst hf52
  subst hf51
  subst hf46
  subst hf45
  subst hf40
  subst hf39
  subst hf34
  subst hf33
  subst hz28
  subst hz22
  subst hz14
  subst hz13
  subst hz12
  subst hz11
  subst hz10
  subst hz8
  subst hz6
  subst hz4
  subst hz2
  subst hz1
  first | rfl | (simp only [own_f0]; done) | (simp only [own_f0]; rfl)
set_option maxRecDepth 65536 in
set_option maxHeartbeats 40000000 in
theorem rm0 (l : Launch) (Z : State) (a0 : Array Value) (hw : oH Z a0) (ws : List Jvm.Cond) (p0 : Int32) (q1 : Int64) (p2 : Int32) (p3 : Int32) (p4 : Int32) (q5 : Int64) (h0 : Heap) (n0 : Nat) (Z0 : n0 ≤ h0.size) :
    MetFree l x (head1 (Jvm.Cond.code x code maxLocals ret :: ws) room_1) (fun a U => a = #[(.int p0), (.long q1), (.int p2), (.int p3), (.int p4), (.long q5)] ∧ Z.Warmed39 U.vm ∧ U.heap = h0) (fun _ _ _ _ _ => True) (fun _ U o U' => ∃ v L, o = .returned v ∧ own_QL (some (.int (own_f0 p0 q1 p2 p3 p4 q5))) n0 v U'.heap L ∧ CHr Z own_EL U.vm U.heap U'.vm U'.heap ∧ ReturnedEndW U o U' L 48 13760) := by
 refine MetFree.of_bodySF (plainFor_of_name pn_0) hisR ?_
 intro p e s m args below meth c s₁ Bd hml0 hP hK
 obtain ⟨rfl, hZ, hh⟩ := hP
 have hx := Bd.exec
 have hby := Bd.bytes
 have hml : c.maxLocals = 27 := hml0
 have hown : s.vm.findClass oC7 = some m.cls := findClass_of_methodNamed Bd.named
 have hnm := (name_of_methodNamed Bd.named Bd.method).1
 have hlk : meth.locks = false := BodyLoose.notSynchronized Bd
 have X0 : Stand p l e room_1 s m #[(.int p0), (.long q1), (.int p2), (.int p3), (.int p4), (.long q5)] below meth c s₁ [] 0 0 := Stand.of_body Bd
 have e0 : s₁.heap = h0 := by rw [← hh, Bd.state]; rfl
 have N0 := Fr.nil n0
 show own_FinW Z own_EL p.tables e below s (own_QL (some (.int (own_f0 p0 q1 p2 p3 p4 q5))) n0) 48 13760 (s₁.setTop (entryFrame m #[(.int p0), (.long q1), (.int p2), (.int p3), (.int p4), (.long q5)] maxLocals))
 rw [ef_0]
 obtain ⟨s00, es00⟩ : ∃ z : State, z = s := ⟨s, rfl⟩
 rw [← es00]
 have hS0 : own_Wb s00 s 0 := by rw [es00]; exact own_Wb.start s
 have hk0 : 0 ≤ h0.size := Nat.zero_le _
 show oG (s₁.setTop (mkF m 0 #[oI p0, oJ q1, oS, oI p2, oI p3, oI p4, oJ q5, oS, oU, oU, oU, oU, oU, oU, oU, oU, oU, oU, oU, oU, oU, oU, oU, oU, oU, oU, oU] []))
 refine own_goW (fun _ k => XS.iconst X0.here hx rfl (hb hby at_0) (XS.iloadN X0.here hx rfl (hb hby at_1) rfl k)) ?_
 refine own_goW (fun _ k => X0.ldcInt hx hown (mvT hZ (oW hw 0 rfl)) (g := (mkF m 2 #[oI p0, oJ q1, oS, oI p2, oI p3, oI p4, oJ q5, oS, oU, oU, oU, oU, oU, oU, oU, oU, oU, oU, oU, oU, oU, oU, oU, oU, oU, oU, oU] [(.int p0), (.int 1)])) rfl (hb hby at_2) _ k) ?_
 refine own_goW (fun _ k => XS.iand X0.here hx rfl (hb hby at_4) rfl (XS.sipush X0.here hx rfl (hb hby at_5) (own_irem X0.here hx rfl (hb hby at_8) rfl (by decide) (XS.iadd X0.here hx rfl (hb hby at_9) rfl (XS.istore X0.here hx rfl (hb hby at_10) rfl (l' := #[oI p0, oJ q1, oS, oI p2, oI p3, oI p4, oJ q5, oS, .val (.int ((1 : Int32) + ((p0 &&& (2147483647 : Int32)) % (3072 : Int32)))), oU, oU, oU, oU, oU, oU, oU, oU, oU, oU, oU, oU, oU, oU, oU, oU, oU, oU]) rfl k))))) ?_
 show oG (s₁.setTop (mkF m 12 #[oI p0, oJ q1, oS, oI p2, oI p3, oI p4, oJ q5, oS, .val (.int ((1 : Int32) + ((p0 &&& (2147483647 : Int32)) % (3072 : Int32)))), oU, oU, oU, oU, oU, oU, oU, oU, oU, oU, oU, oU, oU, oU, oU, oU, oU, oU] []))
 generalize hz1 : ((1 : Int32) + ((p0 &&& (2147483647 : Int32)) % (3072 : Int32))) = z1
 show oG (s₁.setTop (mkF m 12 #[oI p0, oJ q1, oS, oI p2, oI p3, oI p4, oJ q5, oS, oI z1, oU, oU, oU, oU, oU, oU, oU, oU, oU, oU, oU, oU, oU, oU, oU, oU, oU, oU] []))
 have hn1 : own_nn z1 (own_f4 z1) := (by rw [← hz1]; exact own_nn1 _)
 refine own_goW (fun _ k => XS.iloadN X0.here hx rfl (hb hby at_12) rfl (XS.bipush X0.here hx rfl (hb hby at_13) (XS.iand X0.here hx rfl (hb hby at_15) rfl (XS.iconst X0.here hx rfl (hb hby at_16) (own_irem X0.here hx rfl (hb hby at_17) rfl (by decide) (XS.istore X0.here hx rfl (hb hby at_18) rfl (l' := #[oI p0, oJ q1, oS, oI p2, oI p3, oI p4, oJ q5, oS, oI z1, .val (.int ((p2 &&& (7 : Int32)) % (5 : Int32))), oU, oU, oU, oU, oU, oU, oU, oU, oU, oU, oU, oU, oU, oU, oU, oU, oU]) rfl k)))))) ?_
 show oG (s₁.setTop (mkF m 20 #[oI p0, oJ q1, oS, oI p2, oI p3, oI p4, oJ q5, oS, oI z1, .val (.int ((p2 &&& (7 : Int32)) % (5 : Int32))), oU, oU, oU, oU, oU, oU, oU, oU, oU, oU, oU, oU, oU, oU, oU, oU, oU] []))
 generalize hz2 : ((p2 &&& (7 : Int32)) % (5 : Int32)) = z2
 show oG (s₁.setTop (mkF m 20 #[oI p0, oJ q1, oS, oI p2, oI p3, oI p4, oJ q5, oS, oI z1, oI z2, oU, oU, oU, oU, oU, oU, oU, oU, oU, oU, oU, oU, oU, oU, oU, oU, oU] []))
 refine own_goW (fun _ k => XS.lloadN X0.here hx rfl (hb hby at_20) rfl (XS.iconst X0.here hx rfl (hb hby at_21) (XS.iload X0.here hx rfl (hb hby at_22) rfl k))) ?_
 have cq := Jvm.LawKit.callS X0 hx (y := oM28) hown (mvT hZ (oW hw 1 rfl)) (mvT hZ (oW hw 2 rfl)) (mvT hZ (oW hw 3 rfl)) (mvT hZ (oW hw 4 rfl)) (by decide) (backOf (W := 0) (rm1 l Z a0 hw [] q1 (0 : Int32) z1 h0 n0 Z0 (own_npos hn1).2) hZ (oW hw 4 rfl) (oW hw 3 rfl) (by decide) (by decide)) (g := (mkF m 24 #[oI p0, oJ q1, oS, oI p2, oI p3, oI p4, oJ q5, oS, oI z1, oI z2, oU, oU, oU, oU, oU, oU, oU, oU, oU, oU, oU, oU, oU, oU, oU, oU, oU] [(.int z1), (.int 0), (.long q1)])) rfl (by rw [hml]; rfl) (argsL := [(.long q1), (.int 0), (.int z1)]) (rest := []) (lenOf own_pd1038 rfl) rfl (by show 2 * 0 + _ ≤ _; exact Nat.le_of_eq rfl) (hb hby at_24) (fun _ _ => ⟨rfl, e0, (by decide : 0 + 0 ≤ _), (by decide : 0 + 0 ≤ _)⟩)
 obtain ⟨_, _, ⟨T3, L3, k3, n3⟩, -, X3, ⟨Lc3, hQ3, l3, y3, z3⟩, st3⟩ := cq
 dsimp only [Pt.U, Pt.locs, Pt.cells, Pt.slots] at X3 l3 y3 z3 st3 hQ3
 replace y3 : 0 = k3 := y3.symm
 replace z3 : 0 = n3 := z3.symm
 subst y3 z3
 obtain ⟨rfl, N3q, e3⟩ := hQ3
 have N3 : Fr n0 L3 := by rw [l3]; exact Fr.app N0 N3q
 refine own_goW (fun tg k => st3 tg k) ?_
 show oG (T3.setTop (mkF m 27 #[oI p0, oJ q1, oS, oI p2, oI p3, oI p4, oJ q5, oS, oI z1, oI z2, oU, oU, oU, oU, oU, oU, oU, oU, oU, oU, oU, oU, oU, oU, oU, oU, oU] [(.int (own_f1 q1 (0 : Int32) z1))]))
 refine own_goW (fun _ k => XS.istore X3.here hx rfl (hb hby at_27) rfl (l' := #[oI p0, oJ q1, oS, oI p2, oI p3, oI p4, oJ q5, oS, oI z1, oI z2, .val (.int (own_f1 q1 (0 : Int32) z1)), oU, oU, oU, oU, oU, oU, oU, oU, oU, oU, oU, oU, oU, oU, oU, oU]) rfl k) ?_
 show oG (T3.setTop (mkF m 29 #[oI p0, oJ q1, oS, oI p2, oI p3, oI p4, oJ q5, oS, oI z1, oI z2, .val (.int (own_f1 q1 (0 : Int32) z1)), oU, oU, oU, oU, oU, oU, oU, oU, oU, oU, oU, oU, oU, oU, oU, oU] []))
 generalize hz4 : (own_f1 q1 (0 : Int32) z1) = z4
 show oG (T3.setTop (mkF m 29 #[oI p0, oJ q1, oS, oI p2, oI p3, oI p4, oJ q5, oS, oI z1, oI z2, oI z4, oU, oU, oU, oU, oU, oU, oU, oU, oU, oU, oU, oU, oU, oU, oU, oU] []))
 refine own_goW (fun _ k => XS.lloadN X3.here hx rfl (hb hby at_29) rfl (XS.iconst X3.here hx rfl (hb hby at_30) (XS.iload X3.here hx rfl (hb hby at_31) rfl k))) ?_
 have cq := Jvm.LawKit.callS X3 hx (y := oM28) hown (mvT hZ (oW hw 1 rfl)) (mvT hZ (oW hw 2 rfl)) (mvT hZ (oW hw 3 rfl)) (mvT hZ (oW hw 4 rfl)) (by decide) (backOf (W := 0) (rm1 l Z a0 hw [] q1 (1 : Int32) z1 h0 n0 Z0 (own_npos hn1).2) hZ (oW hw 4 rfl) (oW hw 3 rfl) (by decide) (by decide)) (g := (mkF m 33 #[oI p0, oJ q1, oS, oI p2, oI p3, oI p4, oJ q5, oS, oI z1, oI z2, oI z4, oU, oU, oU, oU, oU, oU, oU, oU, oU, oU, oU, oU, oU, oU, oU, oU] [(.int z1), (.int 1), (.long q1)])) rfl (by rw [hml]; rfl) (argsL := [(.long q1), (.int 1), (.int z1)]) (rest := []) (lenOf own_pd1038 rfl) rfl (by show 2 * 0 + _ ≤ _; exact Nat.le_of_eq rfl) (hb hby at_33) (fun _ _ => ⟨rfl, e3, (by decide : 0 + 0 ≤ _), (by decide : 0 + 0 ≤ _)⟩)
 obtain ⟨_, _, ⟨T5, L5, k5, n5⟩, -, X5, ⟨Lc5, hQ5, l5, y5, z5⟩, st5⟩ := cq
 dsimp only [Pt.U, Pt.locs, Pt.cells, Pt.slots] at X5 l5 y5 z5 st5 hQ5
 replace y5 : 0 = k5 := y5.symm
 replace z5 : 0 = n5 := z5.symm
 subst y5 z5
 obtain ⟨rfl, N5q, e5⟩ := hQ5
 have N5 : Fr n0 L5 := by rw [l5]; exact Fr.app N3 N5q
 refine own_goW (fun tg k => st5 tg k) ?_
 show oG (T5.setTop (mkF m 36 #[oI p0, oJ q1, oS, oI p2, oI p3, oI p4, oJ q5, oS, oI z1, oI z2, oI z4, oU, oU, oU, oU, oU, oU, oU, oU, oU, oU, oU, oU, oU, oU, oU, oU] [(.int (own_f1 q1 (1 : Int32) z1))]))
 refine own_goW (fun _ k => XS.istore X5.here hx rfl (hb hby at_36) rfl (l' := #[oI p0, oJ q1, oS, oI p2, oI p3, oI p4, oJ q5, oS, oI z1, oI z2, oI z4, .val (.int (own_f1 q1 (1 : Int32) z1)), oU, oU, oU, oU, oU, oU, oU, oU, oU, oU, oU, oU, oU, oU, oU]) rfl k) ?_
 show oG (T5.setTop (mkF m 38 #[oI p0, oJ q1, oS, oI p2, oI p3, oI p4, oJ q5, oS, oI z1, oI z2, oI z4, .val (.int (own_f1 q1 (1 : Int32) z1)), oU, oU, oU, oU, oU, oU, oU, oU, oU, oU, oU, oU, oU, oU, oU] []))
 generalize hz6 : (own_f1 q1 (1 : Int32) z1) = z6
 show oG (T5.setTop (mkF m 38 #[oI p0, oJ q1, oS, oI p2, oI p3, oI p4, oJ q5, oS, oI z1, oI z2, oI z4, oI z6, oU, oU, oU, oU, oU, oU, oU, oU, oU, oU, oU, oU, oU, oU, oU] []))
 refine own_goW (fun _ k => XS.lloadN X5.here hx rfl (hb hby at_38) rfl (XS.iconst X5.here hx rfl (hb hby at_39) (XS.iload X5.here hx rfl (hb hby at_40) rfl k))) ?_
 have cq := Jvm.LawKit.callS X5 hx (y := oM28) hown (mvT hZ (oW hw 1 rfl)) (mvT hZ (oW hw 2 rfl)) (mvT hZ (oW hw 3 rfl)) (mvT hZ (oW hw 4 rfl)) (by decide) (backOf (W := 0) (rm1 l Z a0 hw [] q1 (2 : Int32) z1 h0 n0 Z0 (own_npos hn1).2) hZ (oW hw 4 rfl) (oW hw 3 rfl) (by decide) (by decide)) (g := (mkF m 42 #[oI p0, oJ q1, oS, oI p2, oI p3, oI p4, oJ q5, oS, oI z1, oI z2, oI z4, oI z6, oU, oU, oU, oU, oU, oU, oU, oU, oU, oU, oU, oU, oU, oU, oU] [(.int z1), (.int 2), (.long q1)])) rfl (by rw [hml]; rfl) (argsL := [(.long q1), (.int 2), (.int z1)]) (rest := []) (lenOf own_pd1038 rfl) rfl (by show 2 * 0 + _ ≤ _; exact Nat.le_of_eq rfl) (hb hby at_42) (fun _ _ => ⟨rfl, e5, (by decide : 0 + 0 ≤ _), (by decide : 0 + 0 ≤ _)⟩)
 obtain ⟨_, _, ⟨T7, L7, k7, n7⟩, -, X7, ⟨Lc7, hQ7, l7, y7, z7⟩, st7⟩ := cq
 dsimp only [Pt.U, Pt.locs, Pt.cells, Pt.slots] at X7 l7 y7 z7 st7 hQ7
 replace y7 : 0 = k7 := y7.symm
 replace z7 : 0 = n7 := z7.symm
 subst y7 z7
 obtain ⟨rfl, N7q, e7⟩ := hQ7
 have N7 : Fr n0 L7 := by rw [l7]; exact Fr.app N5 N7q
 refine own_goW (fun tg k => st7 tg k) ?_
 show oG (T7.setTop (mkF m 45 #[oI p0, oJ q1, oS, oI p2, oI p3, oI p4, oJ q5, oS, oI z1, oI z2, oI z4, oI z6, oU, oU, oU, oU, oU, oU, oU, oU, oU, oU, oU, oU, oU, oU, oU] [(.int (own_f1 q1 (2 : Int32) z1))]))
 refine own_goW (fun _ k => XS.istore X7.here hx rfl (hb hby at_45) rfl (l' := #[oI p0, oJ q1, oS, oI p2, oI p3, oI p4, oJ q5, oS, oI z1, oI z2, oI z4, oI z6, .val (.int (own_f1 q1 (2 : Int32) z1)), oU, oU, oU, oU, oU, oU, oU, oU, oU, oU, oU, oU, oU, oU]) rfl k) ?_
 show oG (T7.setTop (mkF m 47 #[oI p0, oJ q1, oS, oI p2, oI p3, oI p4, oJ q5, oS, oI z1, oI z2, oI z4, oI z6, .val (.int (own_f1 q1 (2 : Int32) z1)), oU, oU, oU, oU, oU, oU, oU, oU, oU, oU, oU, oU, oU, oU] []))
 generalize hz8 : (own_f1 q1 (2 : Int32) z1) = z8
 show oG (T7.setTop (mkF m 47 #[oI p0, oJ q1, oS, oI p2, oI p3, oI p4, oJ q5, oS, oI z1, oI z2, oI z4, oI z6, oI z8, oU, oU, oU, oU, oU, oU, oU, oU, oU, oU, oU, oU, oU, oU] []))
 refine own_goW (fun _ k => XS.lloadN X7.here hx rfl (hb hby at_47) rfl (XS.iconst X7.here hx rfl (hb hby at_48) (XS.iload X7.here hx rfl (hb hby at_49) rfl k))) ?_
 have cq := Jvm.LawKit.callS X7 hx (y := oM28) hown (mvT hZ (oW hw 1 rfl)) (mvT hZ (oW hw 2 rfl)) (mvT hZ (oW hw 3 rfl)) (mvT hZ (oW hw 4 rfl)) (by decide) (backOf (W := 0) (rm1 l Z a0 hw [] q1 (3 : Int32) z1 h0 n0 Z0 (own_npos hn1).2) hZ (oW hw 4 rfl) (oW hw 3 rfl) (by decide) (by decide)) (g := (mkF m 51 #[oI p0, oJ q1, oS, oI p2, oI p3, oI p4, oJ q5, oS, oI z1, oI z2, oI z4, oI z6, oI z8, oU, oU, oU, oU, oU, oU, oU, oU, oU, oU, oU, oU, oU, oU] [(.int z1), (.int 3), (.long q1)])) rfl (by rw [hml]; rfl) (argsL := [(.long q1), (.int 3), (.int z1)]) (rest := []) (lenOf own_pd1038 rfl) rfl (by show 2 * 0 + _ ≤ _; exact Nat.le_of_eq rfl) (hb hby at_51) (fun _ _ => ⟨rfl, e7, (by decide : 0 + 0 ≤ _), (by decide : 0 + 0 ≤ _)⟩)
 obtain ⟨_, _, ⟨T9, L9, k9, n9⟩, -, X9, ⟨Lc9, hQ9, l9, y9, z9⟩, st9⟩ := cq
 dsimp only [Pt.U, Pt.locs, Pt.cells, Pt.slots] at X9 l9 y9 z9 st9 hQ9
 replace y9 : 0 = k9 := y9.symm
 replace z9 : 0 = n9 := z9.symm
 subst y9 z9
 obtain ⟨rfl, N9q, e9⟩ := hQ9
 have N9 : Fr n0 L9 := by rw [l9]; exact Fr.app N7 N9q
 refine own_goW (fun tg k => st9 tg k) ?_
 show oG (T9.setTop (mkF m 54 #[oI p0, oJ q1, oS, oI p2, oI p3, oI p4, oJ q5, oS, oI z1, oI z2, oI z4, oI z6, oI z8, oU, oU, oU, oU, oU, oU, oU, oU, oU, oU, oU, oU, oU, oU] [(.int (own_f1 q1 (3 : Int32) z1))]))
 refine own_goW (fun _ k => XS.istore X9.here hx rfl (hb hby at_54) rfl (l' := #[oI p0, oJ q1, oS, oI p2, oI p3, oI p4, oJ q5, oS, oI z1, oI z2, oI z4, oI z6, oI z8, .val (.int (own_f1 q1 (3 : Int32) z1)), oU, oU, oU, oU, oU, oU, oU, oU, oU, oU, oU, oU, oU]) rfl k) ?_
 show oG (T9.setTop (mkF m 56 #[oI p0, oJ q1, oS, oI p2, oI p3, oI p4, oJ q5, oS, oI z1, oI z2, oI z4, oI z6, oI z8, .val (.int (own_f1 q1 (3 : Int32) z1)), oU, oU, oU, oU, oU, oU, oU, oU, oU, oU, oU, oU, oU] []))
 generalize hz10 : (own_f1 q1 (3 : Int32) z1) = z10
 show oG (T9.setTop (mkF m 56 #[oI p0, oJ q1, oS, oI p2, oI p3, oI p4, oJ q5, oS, oI z1, oI z2, oI z4, oI z6, oI z8, oI z10, oU, oU, oU, oU, oU, oU, oU, oU, oU, oU, oU, oU, oU] []))
 have hr10 : own_in z4 z1 := (by rw [← hz4]; exact own_rcv hn1 _ _)
 have hr11 : own_in z6 z1 := (by rw [← hz6]; exact own_rcv hn1 _ _)
 have hr12 : own_in z8 z1 := (by rw [← hz8]; exact own_rcv hn1 _ _)
 have hr13 : own_in z10 z1 := (by rw [← hz10]; exact own_rcv hn1 _ _)
 refine own_goW (fun _ k => XS.iloadN X9.here hx rfl (hb hby at_56) rfl (XS.iconst X9.here hx rfl (hb hby at_57) (XS.iushr X9.here hx rfl (hb hby at_58) rfl k))) ?_
 show oG (T9.setTop (mkF m 59 #[oI p0, oJ q1, oS, oI p2, oI p3, oI p4, oJ q5, oS, oI z1, oI z2, oI z4, oI z6, oI z8, oI z10, oU, oU, oU, oU, oU, oU, oU, oU, oU, oU, oU, oU, oU] [(.int (own_iushr p2 (3 : Int32)))]))
 refine own_goW (fun _ k => XS.iconst X9.here hx rfl (hb hby at_59) (XS.iand X9.here hx rfl (hb hby at_60) rfl (XS.istore X9.here hx rfl (hb hby at_61) rfl (l' := #[oI p0, oJ q1, oS, oI p2, oI p3, oI p4, oJ q5, oS, oI z1, oI z2, oI z4, oI z6, oI z8, oI z10, .val (.int ((own_iushr p2 (3 : Int32)) &&& (1 : Int32))), oU, oU, oU, oU, oU, oU, oU, oU, oU, oU, oU, oU]) rfl k))) ?_
 show oG (T9.setTop (mkF m 63 #[oI p0, oJ q1, oS, oI p2, oI p3, oI p4, oJ q5, oS, oI z1, oI z2, oI z4, oI z6, oI z8, oI z10, .val (.int ((own_iushr p2 (3 : Int32)) &&& (1 : Int32))), oU, oU, oU, oU, oU, oU, oU, oU, oU, oU, oU, oU] []))
 generalize hz11 : ((own_iushr p2 (3 : Int32)) &&& (1 : Int32)) = z11
 show oG (T9.setTop (mkF m 63 #[oI p0, oJ q1, oS, oI p2, oI p3, oI p4, oJ q5, oS, oI z1, oI z2, oI z4, oI z6, oI z8, oI z10, oI z11, oU, oU, oU, oU, oU, oU, oU, oU, oU, oU, oU, oU] []))
 refine own_goW (fun _ k => XS.iloadN X9.here hx rfl (hb hby at_63) rfl (XS.iconst X9.here hx rfl (hb hby at_64) (XS.iushr X9.here hx rfl (hb hby at_65) rfl k))) ?_
 show oG (T9.setTop (mkF m 66 #[oI p0, oJ q1, oS, oI p2, oI p3, oI p4, oJ q5, oS, oI z1, oI z2, oI z4, oI z6, oI z8, oI z10, oI z11, oU, oU, oU, oU, oU, oU, oU, oU, oU, oU, oU, oU] [(.int (own_iushr p2 (4 : Int32)))]))
 refine own_goW (fun _ k => XS.iconst X9.here hx rfl (hb hby at_66) (XS.iand X9.here hx rfl (hb hby at_67) rfl (XS.istore X9.here hx rfl (hb hby at_68) rfl (l' := #[oI p0, oJ q1, oS, oI p2, oI p3, oI p4, oJ q5, oS, oI z1, oI z2, oI z4, oI z6, oI z8, oI z10, oI z11, .val (.int ((own_iushr p2 (4 : Int32)) &&& (1 : Int32))), oU, oU, oU, oU, oU, oU, oU, oU, oU, oU, oU]) rfl k))) ?_
 show oG (T9.setTop (mkF m 70 #[oI p0, oJ q1, oS, oI p2, oI p3, oI p4, oJ q5, oS, oI z1, oI z2, oI z4, oI z6, oI z8, oI z10, oI z11, .val (.int ((own_iushr p2 (4 : Int32)) &&& (1 : Int32))), oU, oU, oU, oU, oU, oU, oU, oU, oU, oU, oU] []))
 generalize hz12 : ((own_iushr p2 (4 : Int32)) &&& (1 : Int32)) = z12
 show oG (T9.setTop (mkF m 70 #[oI p0, oJ q1, oS, oI p2, oI p3, oI p4, oJ q5, oS, oI z1, oI z2, oI z4, oI z6, oI z8, oI z10, oI z11, oI z12, oU, oU, oU, oU, oU, oU, oU, oU, oU, oU, oU] []))
 refine own_goW (fun _ k => XS.iloadN X9.here hx rfl (hb hby at_70) rfl (XS.iconst X9.here hx rfl (hb hby at_71) (XS.iushr X9.here hx rfl (hb hby at_72) rfl k))) ?_
 show oG (T9.setTop (mkF m 73 #[oI p0, oJ q1, oS, oI p2, oI p3, oI p4, oJ q5, oS, oI z1, oI z2, oI z4, oI z6, oI z8, oI z10, oI z11, oI z12, oU, oU, oU, oU, oU, oU, oU, oU, oU, oU, oU] [(.int (own_iushr p2 (5 : Int32)))]))
 refine own_goW (fun _ k => XS.iconst X9.here hx rfl (hb hby at_73) (XS.iand X9.here hx rfl (hb hby at_74) rfl (XS.istore X9.here hx rfl (hb hby at_75) rfl (l' := #[oI p0, oJ q1, oS, oI p2, oI p3, oI p4, oJ q5, oS, oI z1, oI z2, oI z4, oI z6, oI z8, oI z10, oI z11, oI z12, .val (.int ((own_iushr p2 (5 : Int32)) &&& (1 : Int32))), oU, oU, oU, oU, oU, oU, oU, oU, oU, oU]) rfl k))) ?_
 show oG (T9.setTop (mkF m 77 #[oI p0, oJ q1, oS, oI p2, oI p3, oI p4, oJ q5, oS, oI z1, oI z2, oI z4, oI z6, oI z8, oI z10, oI z11, oI z12, .val (.int ((own_iushr p2 (5 : Int32)) &&& (1 : Int32))), oU, oU, oU, oU, oU, oU, oU, oU, oU, oU] []))
 generalize hz13 : ((own_iushr p2 (5 : Int32)) &&& (1 : Int32)) = z13
 show oG (T9.setTop (mkF m 77 #[oI p0, oJ q1, oS, oI p2, oI p3, oI p4, oJ q5, oS, oI z1, oI z2, oI z4, oI z6, oI z8, oI z10, oI z11, oI z12, oI z13, oU, oU, oU, oU, oU, oU, oU, oU, oU, oU] []))
 refine own_goW (fun _ k => XS.iloadN X9.here hx rfl (hb hby at_77) rfl (XS.bipush X9.here hx rfl (hb hby at_78) (XS.iushr X9.here hx rfl (hb hby at_80) rfl k))) ?_
 show oG (T9.setTop (mkF m 81 #[oI p0, oJ q1, oS, oI p2, oI p3, oI p4, oJ q5, oS, oI z1, oI z2, oI z4, oI z6, oI z8, oI z10, oI z11, oI z12, oI z13, oU, oU, oU, oU, oU, oU, oU, oU, oU, oU] [(.int (own_iushr p2 (6 : Int32)))]))
 refine own_goW (fun _ k => XS.iconst X9.here hx rfl (hb hby at_81) (XS.iand X9.here hx rfl (hb hby at_82) rfl (XS.istore X9.here hx rfl (hb hby at_83) rfl (l' := #[oI p0, oJ q1, oS, oI p2, oI p3, oI p4, oJ q5, oS, oI z1, oI z2, oI z4, oI z6, oI z8, oI z10, oI z11, oI z12, oI z13, .val (.int ((own_iushr p2 (6 : Int32)) &&& (1 : Int32))), oU, oU, oU, oU, oU, oU, oU, oU, oU]) rfl k))) ?_
 show oG (T9.setTop (mkF m 85 #[oI p0, oJ q1, oS, oI p2, oI p3, oI p4, oJ q5, oS, oI z1, oI z2, oI z4, oI z6, oI z8, oI z10, oI z11, oI z12, oI z13, .val (.int ((own_iushr p2 (6 : Int32)) &&& (1 : Int32))), oU, oU, oU, oU, oU, oU, oU, oU, oU] []))
 generalize hz14 : ((own_iushr p2 (6 : Int32)) &&& (1 : Int32)) = z14
 show oG (T9.setTop (mkF m 85 #[oI p0, oJ q1, oS, oI p2, oI p3, oI p4, oJ q5, oS, oI z1, oI z2, oI z4, oI z6, oI z8, oI z10, oI z11, oI z12, oI z13, oI z14, oU, oU, oU, oU, oU, oU, oU, oU, oU] []))
 refine own_goW (fun _ k => XS.iload X9.here hx rfl (hb hby at_85) rfl (XS.bipush X9.here hx rfl (hb hby at_87) (XS.iand X9.here hx rfl (hb hby at_89) rfl (XS.istore X9.here hx rfl (hb hby at_90) rfl (l' := #[oI p0, oJ q1, oS, oI p2, oI p3, oI p4, oJ q5, oS, oI z1, oI z2, oI z4, oI z6, oI z8, oI z10, oI z11, oI z12, oI z13, oI z14, .val (.int (p3 &&& (7 : Int32))), oU, oU, oU, oU, oU, oU, oU, oU]) rfl (XS.iload X9.here hx rfl (hb hby at_92) rfl k))))) ?_
 have hk16 : ∀ (T' : State) (L' : List Loc), Stand p l e room_1 s m #[(.int p0), (.long q1), (.int p2), (.int p3), (.int p4), (.long q5)] below meth c T' L' 0 0 → Fr n0 L' → T'.heap = h0 → own_FinW Z own_EL p.tables e below s00 (own_QL (some (.int (own_f0 p0 q1 p2 p3 p4 q5))) n0) 48 13760 (T'.setTop (mkF m 152 #[oI p0, oJ q1, oS, oI p2, oI p3, oI p4, oJ q5, oS, oI z1, oI z2, oI z4, oI z6, oI z8, oI z10, oI z11, oI z12, oI z13, oI z14, .val (.int (p3 &&& (7 : Int32))), .val (.int (if (p3 &&& (7 : Int32)) = (0 : Int32) then z4 else (if (p3 &&& (7 : Int32)) = (1 : Int32) then z6 else (if (p3 &&& (7 : Int32)) = (2 : Int32) then z8 else (if (p3 &&& (7 : Int32)) = (3 : Int32) then z10 else ((own_iushr p3 (3 : Int32)) % z1)))))), oU, oU, oU, oU, oU, oU, oU] [])) := by
  intro T21 L21 X21 N21 e21
  generalize hz22 : (if (p3 &&& (7 : Int32)) = (0 : Int32) then z4 else (if (p3 &&& (7 : Int32)) = (1 : Int32) then z6 else (if (p3 &&& (7 : Int32)) = (2 : Int32) then z8 else (if (p3 &&& (7 : Int32)) = (3 : Int32) then z10 else ((own_iushr p3 (3 : Int32)) % z1))))) = z22
  show oG (T21.setTop (mkF m 152 #[oI p0, oJ q1, oS, oI p2, oI p3, oI p4, oJ q5, oS, oI z1, oI z2, oI z4, oI z6, oI z8, oI z10, oI z11, oI z12, oI z13, oI z14, .val (.int (p3 &&& (7 : Int32))), oI z22, oU, oU, oU, oU, oU, oU, oU] []))
  have hv19 : own_in z22 z1 := by rw [← hz22]; exact own_ii hr10 (own_ii hr11 (own_ii hr12 (own_ii hr13 (own_inr hn1 (own_us _ 3 3 (by decide) (by decide))))))
  obtain ⟨T23, h23, X23, e23, E23, A23, D23, -, st23⟩ := newO X21 hx hZ hown (oW hw 6 rfl) (oW hw 7 rfl) (oW hw 8 rfl) e21 (g := (mkF m 152 #[oI p0, oJ q1, oS, oI p2, oI p3, oI p4, oJ q5, oS, oI z1, oI z2, oI z4, oI z6, oI z8, oI z10, oI z11, oI z12, oI z13, oI z14, .val (.int (p3 &&& (7 : Int32))), oI z22, oU, oU, oU, oU, oU, oU, oU] [])) rfl (hb hby at_152) (by decide) (by decide)
  obtain ⟨b23, g23⟩ : ∃ z, z = h0.size := ⟨_, rfl⟩
  rw [← g23] at A23 D23 st23
  have ge_b23 : n0 ≤ b23 := Nat.le_trans Z0 (Nat.le_of_eq g23.symm)
  have Z23 : n0 ≤ h23.size := Nat.le_trans Z0 E23.1
  have E_b23_23 : Exa Z h23 b23 oC0 := A23
  have F_receivers_b23_23 : Fld Z h23 b23 oC0 "receivers" "I" (.int 0) := D23 (Or.inr (oW hw 24 rfl)) (ty := .int) (by decide)
  have F_senderKind_b23_23 : Fld Z h23 b23 oC0 "senderKind" oC12 .null := D23 (Or.inr (oW hw 26 rfl)) (ty := (.object oC13)) (by decide)
  have F_outboxes_b23_23 : Fld Z h23 b23 oC0 "outboxes" oC4 .null := D23 (Or.inr (oW hw 30 rfl)) (ty := (.array (.object oC2))) (by decide)
  have F_recipients_b23_23 : Fld Z h23 b23 oC0 "recipients" oC6 .null := D23 (Or.inr (oW hw 63 rfl)) (ty := (.object oC1)) (by decide)
  have F_end_b23_23 : Fld Z h23 b23 oC0 "end" "[I" .null := D23 (Or.inl (oW hw 70 rfl)) (ty := (.array .int)) (by decide)
  have F_delivered_b23_23 : Fld Z h23 b23 oC0 "delivered" "I" (.int 0) := D23 (Or.inl (oW hw 128 rfl)) (ty := .int) (by decide)
  have F_senders_b23_23 : Fld Z h23 b23 oC0 "senders" "[I" .null := D23 (Or.inl (oW hw 130 rfl)) (ty := (.array .int)) (by decide)
  have F_messages_b23_23 : Fld Z h23 b23 oC0 "messages" "[J" .null := D23 (Or.inl (oW hw 132 rfl)) (ty := (.array .long)) (by decide)
  have F_first_b23_23 : Fld Z h23 b23 oC0 "first" "[I" .null := D23 (Or.inl (oW hw 134 rfl)) (ty := (.array .int)) (by decide)
  refine own_goW (fun tg k => st23 tg k) ?_
  refine own_goW (fun _ k => XS.dup X23.here hx rfl (hb hby at_155) rfl rfl (XS.iload X23.here hx rfl (hb hby at_156) rfl (XS.iconst X23.here hx rfl (hb hby at_158) k))) ?_
  obtain ⟨a24, T24, h24, k24, s, X24, e24, E24, hS24, hk24, hZ, hown, st24⟩ := own_ldcO X23 hx hZ hown (oW hw 9 rfl) (own_wS hw) e23 hS0 (Nat.zero_le _) (g := (mkF m 159 #[oI p0, oJ q1, oS, oI p2, oI p3, oI p4, oJ q5, oS, oI z1, oI z2, oI z4, oI z6, oI z8, oI z10, oI z11, oI z12, oI z13, oI z14, .val (.int (p3 &&& (7 : Int32))), oI z22, oU, oU, oU, oU, oU, oU, oU] [(.int 2), (.int z1), (.ref b23), (.ref b23)])) rfl (hb hby at_159) (n := 32) (by decide) (by decide) (by decide) (by decide)
  have E_b23_24 := E_b23_23.ext E24
  have F_receivers_b23_24 := F_receivers_b23_23.ext E24
  have F_senderKind_b23_24 := F_senderKind_b23_23.ext E24
  have F_outboxes_b23_24 := F_outboxes_b23_23.ext E24
  have F_recipients_b23_24 := F_recipients_b23_23.ext E24
  have F_end_b23_24 := F_end_b23_23.ext E24
  have F_delivered_b23_24 := F_delivered_b23_23.ext E24
  have F_senders_b23_24 := F_senders_b23_23.ext E24
  have F_messages_b23_24 := F_messages_b23_23.ext E24
  have F_first_b23_24 := F_first_b23_23.ext E24
  have Z24 : n0 ≤ h24.size := Nat.le_trans Z23 E24.1
  refine own_goW (fun tg k => st24 tg k) ?_
  show oG (T24.setTop (mkF m 161 #[oI p0, oJ q1, oS, oI p2, oI p3, oI p4, oJ q5, oS, oI z1, oI z2, oI z4, oI z6, oI z8, oI z10, oI z11, oI z12, oI z13, oI z14, .val (.int (p3 &&& (7 : Int32))), oI z22, oU, oU, oU, oU, oU, oU, oU] [(.ref a24), (.int 2), (.int z1), (.ref b23), (.ref b23)]))
  have cq := X24.specialBack hx (y := oM33) rfl hown (mvT hZ (oW hw 17 rfl)) (mvT hZ (oW hw 18 rfl)) (mvT hZ (oW hw 19 rfl)) (by decide) (backOf (W := 1) (rm2 l Z a0 hw [] b23 z1 a24 h24 n0 Z24 E_b23_24 F_receivers_b23_24 F_senderKind_b23_24 F_outboxes_b23_24 F_recipients_b23_24 F_first_b23_24 F_end_b23_24 F_senders_b23_24 F_messages_b23_24 F_delivered_b23_24 ge_b23 hn1) hZ (oW hw 19 rfl) (oW hw 8 rfl) (by decide) (by decide)) (g := (mkF m 161 #[oI p0, oJ q1, oS, oI p2, oI p3, oI p4, oJ q5, oS, oI z1, oI z2, oI z4, oI z6, oI z8, oI z10, oI z11, oI z12, oI z13, oI z14, .val (.int (p3 &&& (7 : Int32))), oI z22, oU, oU, oU, oU, oU, oU, oU] [(.ref a24), (.int 2), (.int z1), (.ref b23), (.ref b23)])) rfl (by rw [hml]; rfl) (Steps.refl _) (a := b23) (argsL := [(.int z1), (.int 2), (.ref a24)]) (rest := [(.ref b23)]) (lenOf own_pd1039 rfl) rfl (by show 2 * 0 + _ ≤ _; exact Nat.le_of_eq rfl) (hb hby at_161) (fun _ _ => ⟨rfl, e24, (by decide : 3 + 6 ≤ _), (by decide : 45 + 75 ≤ _)⟩)
  obtain ⟨_, _, ⟨T25, L25, k25, n25⟩, -, X25, ⟨Lc25, hQ25, l25, y25, z25⟩, st25⟩ := cq
  dsimp only [Pt.U, Pt.locs, Pt.cells, Pt.slots] at X25 l25 y25 z25 st25 hQ25
  replace y25 : 9 = k25 := y25.symm
  replace z25 : 120 = n25 := z25.symm
  subst y25 z25
  obtain ⟨ob25, rv25, il25, ix25, wd25, hd25, rfl, N25q, sz25, E_b23_25, F_receivers_b23_25, F_outboxes_b23_25, F_recipients_b23_25, F_first_b23_25, F_end_b23_25, F_senders_b23_25, F_messages_b23_25, F_delivered_b23_25, O_ob25_25, E_rv25_25, F_words_rv25_25, F_held_rv25_25, F_blocks_rv25_25, F_sorted_rv25_25, E_il25_25, F_indices_il25_25, F_size_il25_25, A_ix25_25, A_wd25_25, A_hd25_25, ge_ob25, ge_rv25, ge_il25, ge_ix25, ge_wd25, ge_hd25⟩ := hQ25
  have N25 : Fr n0 L25 := by rw [l25]; exact Fr.app N21 N25q
  have Z25 : n0 ≤ T25.heap.size := Nat.le_trans Z24 sz25
  have Y25 : k24 ≤ T25.heap.size := Nat.le_trans hk24 sz25
  refine own_goW (fun tg k => st25.trans k) ?_
  show oG (T25.setTop (mkF m 164 #[oI p0, oJ q1, oS, oI p2, oI p3, oI p4, oJ q5, oS, oI z1, oI z2, oI z4, oI z6, oI z8, oI z10, oI z11, oI z12, oI z13, oI z14, .val (.int (p3 &&& (7 : Int32))), oI z22, oU, oU, oU, oU, oU, oU, oU] [(.ref b23)]))
  have H_am_26 : own_AMf Z T25.heap n0 b23 z1 [] [] := ⟨ob25, rv25, (0 : Int32), .null, .null, .null, .null, [], [], wd25, hd25, il25, ix25, (own_f4 z1), (fun _ => (0 : Int32)), E_b23_25, F_receivers_b23_25, F_outboxes_b23_25, F_recipients_b23_25, F_delivered_b23_25, F_senders_b23_25, F_messages_b23_25, F_first_b23_25, F_end_b23_25, O_ob25_25, ⟨by decide, Or.inl ⟨rfl, rfl, rfl⟩⟩, ⟨by decide, Or.inl ⟨rfl, rfl, rfl⟩⟩, E_rv25_25, F_words_rv25_25, F_held_rv25_25, F_blocks_rv25_25, F_sorted_rv25_25, E_il25_25, F_indices_il25_25, F_size_il25_25, A_ix25_25, A_wd25_25, A_hd25_25, ge_b23, ge_rv25, ge_wd25, ge_hd25, ge_il25, ge_ix25, ge_ob25, List.not_mem_nil, List.not_mem_nil, List.not_mem_nil, List.not_mem_nil, List.not_mem_nil, List.not_mem_nil, List.not_mem_nil, List.not_mem_nil, List.not_mem_nil, List.not_mem_nil, List.not_mem_nil, List.not_mem_nil, List.not_mem_nil, List.not_mem_nil, (fun x hx => absurd hx List.not_mem_nil), hn1⟩
  have H_rd_26 := own_f2r H_am_26
  refine own_goW (fun _ k => XS.astore X25.here hx rfl (hb hby at_164) rfl rfl (l' := #[oI p0, oJ q1, oS, oI p2, oI p3, oI p4, oJ q5, oS, oI z1, oI z2, oI z4, oI z6, oI z8, oI z10, oI z11, oI z12, oI z13, oI z14, .val (.int (p3 &&& (7 : Int32))), oI z22, oR b23, oU, oU, oU, oU, oU, oU]) rfl (XS.aload X25.here hx rfl (hb hby at_166) rfl rfl (XS.iload X25.here hx rfl (hb hby at_168) rfl k))) ?_
  have cq := isOf hZ rfl (own_exf H_am_26)
  obtain ⟨cq27, kq27, q27a, q27b, q27c⟩ := cq
  have cq := X25.virtualBack hx (y := oM32) (z := oM32) hown (mvT hZ (oW hw 64 rfl)) (mvT hZ (oW hw 65 rfl)) (notFace_of_selects (args := #[]) (mvT hZ (oW hw 67 rfl))) (mvT hZ (oW hw 67 rfl)) (mvT hZ (oW hw 66 rfl)) (by decide) (backOf (W := 0) (rm7H l Z a0 hw [] b23 z22 z1 (fun _ => (0 : Int32)) T25.heap n0 Z25 H_rd_26 hv19) hZ (oW hw 68 rfl) (oW hw 8 rfl) (by decide) (by decide)) q27a q27c (g := (mkF m 170 #[oI p0, oJ q1, oS, oI p2, oI p3, oI p4, oJ q5, oS, oI z1, oI z2, oI z4, oI z6, oI z8, oI z10, oI z11, oI z12, oI z13, oI z14, .val (.int (p3 &&& (7 : Int32))), oI z22, oR b23, oU, oU, oU, oU, oU, oU] [(.int z22), (.ref b23)])) rfl (by rw [hml]; rfl) (Steps.refl _) (argsL := [(.int z22)]) (rest := []) (lenOf own_pd90 rfl) rfl (by show 2 * 0 + _ ≤ _; exact Nat.le_of_eq rfl) (hb hby at_170) (fun _ _ => ⟨rfl, rfl, (by decide : 9 + 0 ≤ _), (by decide : 120 + 0 ≤ _)⟩)
  obtain ⟨_, _, ⟨T27, L27, k27, n27⟩, -, X27, ⟨Lc27, hQ27, l27, y27, z27⟩, st27⟩ := cq
  dsimp only [Pt.U, Pt.locs, Pt.cells, Pt.slots] at X27 l27 y27 z27 st27 hQ27
  replace y27 : 9 = k27 := y27.symm
  replace z27 : 120 = n27 := z27.symm
  subst y27 z27
  obtain ⟨rfl, N27q, e27⟩ := hQ27
  have N27 : Fr n0 L27 := by rw [l27]; exact Fr.app N25 N27q
  refine own_goW (fun tg k => st27.trans k) ?_
  show oG (T27.setTop (mkF m 173 #[oI p0, oJ q1, oS, oI p2, oI p3, oI p4, oJ q5, oS, oI z1, oI z2, oI z4, oI z6, oI z8, oI z10, oI z11, oI z12, oI z13, oI z14, .val (.int (p3 &&& (7 : Int32))), oI z22, oR b23, oU, oU, oU, oU, oU, oU] [(.int ((fun _ => (0 : Int32)) z22.toNatClampNeg))]))
  refine own_goW (fun _ k => own_bi X27.here hx rfl (pc0 := 173) (pc' := 181) rfl (hb hby at_173) (hb hby at_176) (hb hby at_177) (hb hby at_180) rfl (own_yT (C := ((fun _ => (0 : Int32)) z22.toNatClampNeg) = (0 : Int32)) (fun h => ((if0 _ _).trans (teq h).2)) (fun h => ((if0 _ _).trans (feq h).2))) rfl (XS.istore X27.here hx rfl (hb hby at_181) rfl (l' := #[oI p0, oJ q1, oS, oI p2, oI p3, oI p4, oJ q5, oS, oI z1, oI z2, oI z4, oI z6, oI z8, oI z10, oI z11, oI z12, oI z13, oI z14, .val (.int (p3 &&& (7 : Int32))), oI z22, oR b23, .val (.int (if ((fun _ => (0 : Int32)) z22.toNatClampNeg) = (0 : Int32) then (1 : Int32) else (0 : Int32))), oU, oU, oU, oU, oU]) rfl k)) ?_
  show oG (T27.setTop (mkF m 183 #[oI p0, oJ q1, oS, oI p2, oI p3, oI p4, oJ q5, oS, oI z1, oI z2, oI z4, oI z6, oI z8, oI z10, oI z11, oI z12, oI z13, oI z14, .val (.int (p3 &&& (7 : Int32))), oI z22, oR b23, .val (.int (if ((fun _ => (0 : Int32)) z22.toNatClampNeg) = (0 : Int32) then (1 : Int32) else (0 : Int32))), oU, oU, oU, oU, oU] []))
  generalize hz28 : (if ((fun _ => (0 : Int32)) z22.toNatClampNeg) = (0 : Int32) then (1 : Int32) else (0 : Int32)) = z28
  show oG (T27.setTop (mkF m 183 #[oI p0, oJ q1, oS, oI p2, oI p3, oI p4, oJ q5, oS, oI z1, oI z2, oI z4, oI z6, oI z8, oI z10, oI z11, oI z12, oI z13, oI z14, .val (.int (p3 &&& (7 : Int32))), oI z22, oR b23, oI z28, oU, oU, oU, oU, oU] []))
  refine own_goW (fun _ k => XS.iload X27.here hx rfl (hb hby at_183) rfl k) ?_
  have hk30 : ∀ (T' : State) (L' : List Loc) (H' : Heap), Stand p l e room_1 s m #[(.int p0), (.long q1), (.int p2), (.int p3), (.int p4), (.long q5)] below meth c T' L' 13 173 → Fr n0 L' → T'.heap = H' → n0 ≤ H'.size → k24 ≤ H'.size → own_AMf Z H' n0 b23 z1 (if (0 : Int32) < z2 then (own_psh z11 (0 : Int32) [] z4) else []) (if (0 : Int32) < z2 then (own_psh z11 (1 : Int32) [] z4) else []) → own_FinW Z own_EL p.tables e below s00 (own_QL (some (.int (own_f0 p0 q1 p2 p3 p4 q5))) n0) 48 13760 (T'.setTop (mkF m 201 #[oI p0, oJ q1, oS, oI p2, oI p3, oI p4, oJ q5, oS, oI z1, oI z2, oI z4, oI z6, oI z8, oI z10, oI z11, oI z12, oI z13, oI z14, .val (.int (p3 &&& (7 : Int32))), oI z22, oR b23, oI z28, oU, oU, oU, oU, oU] [])) := by
   intro T32 L32 h32j X32 N32 e32 Z32j Y32j H_am_32j
   obtain ⟨f33, hf33⟩ : ∃ z, z = (if (0 : Int32) < z2 then (own_psh z11 (0 : Int32) [] z4) else []) := ⟨_, rfl⟩
   rw [← hf33] at H_am_32j
   obtain ⟨f34, hf34⟩ : ∃ z, z = (if (0 : Int32) < z2 then (own_psh z11 (1 : Int32) [] z4) else []) := ⟨_, rfl⟩
   rw [← hf34] at H_am_32j
   have J0 : own_J z1 1 f33 f34 := by rw [hf33, hf34]; exact own_Ji (own_Jp (own_J0 _) hr10) (own_Jw (own_J0 _))
   refine own_goW (fun _ k => XS.iload X32.here hx rfl (hb hby at_201) rfl (XS.iconst X32.here hx rfl (hb hby at_203) k)) ?_
   have hk36 : ∀ (T' : State) (L' : List Loc) (H' : Heap), Stand p l e room_1 s m #[(.int p0), (.long q1), (.int p2), (.int p3), (.int p4), (.long q5)] below meth c T' L' 17 226 → Fr n0 L' → T'.heap = H' → n0 ≤ H'.size → k24 ≤ H'.size → own_AMf Z H' n0 b23 z1 (if (1 : Int32) < z2 then (own_psh z12 (0 : Int32) f33 z6) else f33) (if (1 : Int32) < z2 then (own_psh z12 (1 : Int32) f34 z6) else f34) → own_FinW Z own_EL p.tables e below s00 (own_QL (some (.int (own_f0 p0 q1 p2 p3 p4 q5))) n0) 48 13760 (T'.setTop (mkF m 224 #[oI p0, oJ q1, oS, oI p2, oI p3, oI p4, oJ q5, oS, oI z1, oI z2, oI z4, oI z6, oI z8, oI z10, oI z11, oI z12, oI z13, oI z14, .val (.int (p3 &&& (7 : Int32))), oI z22, oR b23, oI z28, oU, oU, oU, oU, oU] [])) := by
    intro T38 L38 h38j X38 N38 e38 Z38j Y38j H_am_38j
    obtain ⟨f39, hf39⟩ : ∃ z, z = (if (1 : Int32) < z2 then (own_psh z12 (0 : Int32) f33 z6) else f33) := ⟨_, rfl⟩
    rw [← hf39] at H_am_38j
    obtain ⟨f40, hf40⟩ : ∃ z, z = (if (1 : Int32) < z2 then (own_psh z12 (1 : Int32) f34 z6) else f34) := ⟨_, rfl⟩
    rw [← hf40] at H_am_38j
    have J1 : own_J z1 2 f39 f40 := by rw [hf39, hf40]; exact own_Ji (own_Jp J0 hr11) (own_Jw J0)
    refine own_goW (fun _ k => XS.iload X38.here hx rfl (hb hby at_224) rfl (XS.iconst X38.here hx rfl (hb hby at_226) k)) ?_
    have hk42 : ∀ (T' : State) (L' : List Loc) (H' : Heap), Stand p l e room_1 s m #[(.int p0), (.long q1), (.int p2), (.int p3), (.int p4), (.long q5)] below meth c T' L' 21 279 → Fr n0 L' → T'.heap = H' → n0 ≤ H'.size → k24 ≤ H'.size → own_AMf Z H' n0 b23 z1 (if (2 : Int32) < z2 then (own_psh z13 (0 : Int32) f39 z8) else f39) (if (2 : Int32) < z2 then (own_psh z13 (1 : Int32) f40 z8) else f40) → own_FinW Z own_EL p.tables e below s00 (own_QL (some (.int (own_f0 p0 q1 p2 p3 p4 q5))) n0) 48 13760 (T'.setTop (mkF m 249 #[oI p0, oJ q1, oS, oI p2, oI p3, oI p4, oJ q5, oS, oI z1, oI z2, oI z4, oI z6, oI z8, oI z10, oI z11, oI z12, oI z13, oI z14, .val (.int (p3 &&& (7 : Int32))), oI z22, oR b23, oI z28, oU, oU, oU, oU, oU] [])) := by
     intro T44 L44 h44j X44 N44 e44 Z44j Y44j H_am_44j
     obtain ⟨f45, hf45⟩ : ∃ z, z = (if (2 : Int32) < z2 then (own_psh z13 (0 : Int32) f39 z8) else f39) := ⟨_, rfl⟩
     rw [← hf45] at H_am_44j
     obtain ⟨f46, hf46⟩ : ∃ z, z = (if (2 : Int32) < z2 then (own_psh z13 (1 : Int32) f40 z8) else f40) := ⟨_, rfl⟩
     rw [← hf46] at H_am_44j
     have J2 : own_J z1 3 f45 f46 := by rw [hf45, hf46]; exact own_Ji (own_Jp J1 hr12) (own_Jw J1)
     refine own_goW (fun _ k => XS.iload X44.here hx rfl (hb hby at_249) rfl (XS.iconst X44.here hx rfl (hb hby at_251) k)) ?_
     have hk48 : ∀ (T' : State) (L' : List Loc) (H' : Heap), Stand p l e room_1 s m #[(.int p0), (.long q1), (.int p2), (.int p3), (.int p4), (.long q5)] below meth c T' L' 25 332 → Fr n0 L' → T'.heap = H' → n0 ≤ H'.size → k24 ≤ H'.size → own_AMf Z H' n0 b23 z1 (if (3 : Int32) < z2 then (own_psh z14 (0 : Int32) f45 z10) else f45) (if (3 : Int32) < z2 then (own_psh z14 (1 : Int32) f46 z10) else f46) → own_FinW Z own_EL p.tables e below s00 (own_QL (some (.int (own_f0 p0 q1 p2 p3 p4 q5))) n0) 48 13760 (T'.setTop (mkF m 274 #[oI p0, oJ q1, oS, oI p2, oI p3, oI p4, oJ q5, oS, oI z1, oI z2, oI z4, oI z6, oI z8, oI z10, oI z11, oI z12, oI z13, oI z14, .val (.int (p3 &&& (7 : Int32))), oI z22, oR b23, oI z28, oU, oU, oU, oU, oU] [])) := by
      intro T50 L50 h50j X50 N50 e50 Z50j Y50j H_am_50j
      obtain ⟨f51, hf51⟩ : ∃ z, z = (if (3 : Int32) < z2 then (own_psh z14 (0 : Int32) f45 z10) else f45) := ⟨_, rfl⟩
      rw [← hf51] at H_am_50j
      obtain ⟨f52, hf52⟩ : ∃ z, z = (if (3 : Int32) < z2 then (own_psh z14 (1 : Int32) f46 z10) else f46) := ⟨_, rfl⟩
      rw [← hf52] at H_am_50j
      have J3 : own_J z1 4 f51 f52 := by rw [hf51, hf52]; exact own_Ji (own_Jp J2 hr13) (own_Jw J2)
      refine own_goW (fun _ k => XS.aload X50.here hx rfl (hb hby at_274) rfl rfl (XS.iconst X50.here hx rfl (hb hby at_276) k)) ?_
      have cq := isOf hZ e50 (own_exf H_am_50j)
      obtain ⟨cq53, kq53, q53a, q53b, q53c⟩ := cq
      have cq := X50.virtualBack hx (y := oM31) (z := oM31) hown (mvT hZ (oW hw 98 rfl)) (mvT hZ (oW hw 99 rfl)) (notFace_of_selects (args := #[]) (mvT hZ (oW hw 101 rfl))) (mvT hZ (oW hw 101 rfl)) (mvT hZ (oW hw 100 rfl)) (by decide) (backOf (W := 0) (rm11f l Z a0 hw [] b23 (0 : Int32) z1 f51 f52 h50j n0 Z50j H_am_50j (Nat.le_trans J3.1 (by decide)) J3.2) hZ (oW hw 102 rfl) (oW hw 8 rfl) (by decide) (by decide)) q53a q53c (g := (mkF m 277 #[oI p0, oJ q1, oS, oI p2, oI p3, oI p4, oJ q5, oS, oI z1, oI z2, oI z4, oI z6, oI z8, oI z10, oI z11, oI z12, oI z13, oI z14, .val (.int (p3 &&& (7 : Int32))), oI z22, oR b23, oI z28, oU, oU, oU, oU, oU] [(.int 0), (.ref b23)])) rfl (by rw [hml]; rfl) (Steps.refl _) (argsL := [(.int 0)]) (rest := []) (lenOf own_pd1041 rfl) rfl (by show 2 * 0 + _ ≤ _; exact Nat.le_of_eq rfl) (hb hby at_277) (fun _ _ => ⟨rfl, e50, (by decide : 25 + 4 ≤ _), (by decide : 332 + 6152 ≤ _)⟩)
      obtain ⟨_, _, ⟨T53, L53, k53, n53⟩, -, X53, ⟨Lc53, hQ53, l53, y53, z53⟩, st53⟩ := cq
      dsimp only [Pt.U, Pt.locs, Pt.cells, Pt.slots] at X53 l53 y53 z53 st53 hQ53
      replace y53 : 29 = k53 := y53.symm
      replace z53 : 6484 = n53 := z53.symm
      subst y53 z53
      obtain ⟨rfl, N53q, sz53, H_am_53⟩ := hQ53
      have N53 : Fr n0 L53 := by rw [l53]; exact Fr.app N50 N53q
      have Z53 : n0 ≤ T53.heap.size := Nat.le_trans Z50j sz53
      have Y53 : k24 ≤ T53.heap.size := Nat.le_trans Y50j sz53
      refine own_goW (fun tg k => st53.trans k) ?_
      show oG (T53.setTop (mkF m 280 #[oI p0, oJ q1, oS, oI p2, oI p3, oI p4, oJ q5, oS, oI z1, oI z2, oI z4, oI z6, oI z8, oI z10, oI z11, oI z12, oI z13, oI z14, .val (.int (p3 &&& (7 : Int32))), oI z22, oR b23, oI z28, oU, oU, oU, oU, oU] [(.int (own_dr f51 f52))]))
      have H_rd_54 := own_x2r H_am_53
      refine own_goW (fun _ k => XS.istore X53.here hx rfl (hb hby at_280) rfl (l' := #[oI p0, oJ q1, oS, oI p2, oI p3, oI p4, oJ q5, oS, oI z1, oI z2, oI z4, oI z6, oI z8, oI z10, oI z11, oI z12, oI z13, oI z14, .val (.int (p3 &&& (7 : Int32))), oI z22, oR b23, oI z28, .val (.int (own_dr f51 f52)), oU, oU, oU, oU]) rfl (XS.iload X53.here hx rfl (hb hby at_282) rfl (XS.iload X53.here hx rfl (hb hby at_284) rfl (XS.iload X53.here hx rfl (hb hby at_286) rfl (own_bi X53.here hx rfl (pc0 := 288) (pc' := 296) rfl (hb hby at_288) (hb hby at_291) (hb hby at_292) (hb hby at_295) rfl (own_yT (C := (0 : Int32) < z2) (fun h => ((if0 _ _).trans (tlt h).2.2.2)) (fun h => ((if0 _ _).trans (flt h).2.2.2))) rfl (own_bc X53.here hx rfl (pc0 := 296) (pc' := 304) rfl (hb hby at_296) (hb hby at_299) (hb hby at_300) (hb hby at_303) rfl (own_yT (C := (own_dr f51 f52) = (if (0 : Int32) < z2 then (1 : Int32) else (0 : Int32))) (fun h => (teq h).2) (fun h => (feq h).2)) rfl (XS.iand X53.here hx rfl (hb hby at_304) rfl (XS.istore X53.here hx rfl (hb hby at_305) rfl (l' := #[oI p0, oJ q1, oS, oI p2, oI p3, oI p4, oJ q5, oS, oI z1, oI z2, oI z4, oI z6, oI z8, oI z10, oI z11, oI z12, oI z13, oI z14, .val (.int (p3 &&& (7 : Int32))), oI z22, oR b23, .val (.int (z28 &&& (if (own_dr f51 f52) = (if (0 : Int32) < z2 then (1 : Int32) else (0 : Int32)) then (1 : Int32) else (0 : Int32)))), .val (.int (own_dr f51 f52)), oU, oU, oU, oU]) rfl k)))))))) ?_
      show oG (T53.setTop (mkF m 307 #[oI p0, oJ q1, oS, oI p2, oI p3, oI p4, oJ q5, oS, oI z1, oI z2, oI z4, oI z6, oI z8, oI z10, oI z11, oI z12, oI z13, oI z14, .val (.int (p3 &&& (7 : Int32))), oI z22, oR b23, .val (.int (z28 &&& (if (own_dr f51 f52) = (if (0 : Int32) < z2 then (1 : Int32) else (0 : Int32)) then (1 : Int32) else (0 : Int32)))), .val (.int (own_dr f51 f52)), oU, oU, oU, oU] []))
      generalize hz55 : (z28 &&& (if (own_dr f51 f52) = (if (0 : Int32) < z2 then (1 : Int32) else (0 : Int32)) then (1 : Int32) else (0 : Int32))) = z55
      show oG (T53.setTop (mkF m 307 #[oI p0, oJ q1, oS, oI p2, oI p3, oI p4, oJ q5, oS, oI z1, oI z2, oI z4, oI z6, oI z8, oI z10, oI z11, oI z12, oI z13, oI z14, .val (.int (p3 &&& (7 : Int32))), oI z22, oR b23, oI z55, .val (.int (own_dr f51 f52)), oU, oU, oU, oU] []))
      refine own_goW (fun _ k => XS.iload X53.here hx rfl (hb hby at_307) rfl (own_bi X53.here hx rfl (pc0 := 309) (pc' := 317) rfl (hb hby at_309) (hb hby at_312) (hb hby at_313) (hb hby at_316) rfl (own_yT (C := (0 : Int32) < z2) (fun h => ((if0 _ _).trans (tlt h).2.2.2)) (fun h => ((if0 _ _).trans (flt h).2.2.2))) rfl (XS.iload X53.here hx rfl (hb hby at_317) rfl (XS.iload X53.here hx rfl (hb hby at_319) rfl (own_bc X53.here hx rfl (pc0 := 321) (pc' := 329) rfl (hb hby at_321) (hb hby at_324) (hb hby at_325) (hb hby at_328) rfl (own_yT (C := z4 = z22) (fun h => (teq h).2) (fun h => (feq h).2)) rfl k))))) ?_
      have cq := Jvm.LawKit.callS X53 hx (y := oM29) hown (mvT hZ (oW hw 181 rfl)) (mvT hZ (oW hw 182 rfl)) (mvT hZ (oW hw 3 rfl)) (mvT hZ (oW hw 183 rfl)) (by decide) (backOf (W := 0) (rm25 l Z a0 hw [] (if (0 : Int32) < z2 then (1 : Int32) else (0 : Int32)) (if z4 = z22 then (1 : Int32) else (0 : Int32)) T53.heap n0 Z53) hZ (oW hw 183 rfl) (oW hw 3 rfl) (by decide) (by decide)) (g := (mkF m 329 #[oI p0, oJ q1, oS, oI p2, oI p3, oI p4, oJ q5, oS, oI z1, oI z2, oI z4, oI z6, oI z8, oI z10, oI z11, oI z12, oI z13, oI z14, .val (.int (p3 &&& (7 : Int32))), oI z22, oR b23, oI z55, .val (.int (own_dr f51 f52)), oU, oU, oU, oU] [(.int (if z4 = z22 then (1 : Int32) else (0 : Int32))), (.int (if (0 : Int32) < z2 then (1 : Int32) else (0 : Int32)))])) rfl (by rw [hml]; rfl) (argsL := [(.int (if (0 : Int32) < z2 then (1 : Int32) else (0 : Int32))), (.int (if z4 = z22 then (1 : Int32) else (0 : Int32)))]) (rest := []) (lenOf own_pd1042 rfl) rfl (by show 2 * 0 + _ ≤ _; exact Nat.le_of_eq rfl) (hb hby at_329) (fun _ _ => ⟨rfl, rfl, (by decide : 29 + 0 ≤ _), (by decide : 6484 + 0 ≤ _)⟩)
      obtain ⟨_, _, ⟨T56, L56, k56, n56⟩, -, X56, ⟨Lc56, hQ56, l56, y56, z56⟩, st56⟩ := cq
      dsimp only [Pt.U, Pt.locs, Pt.cells, Pt.slots] at X56 l56 y56 z56 st56 hQ56
      replace y56 : 29 = k56 := y56.symm
      replace z56 : 6484 = n56 := z56.symm
      subst y56 z56
      obtain ⟨rfl, N56q, e56⟩ := hQ56
      have N56 : Fr n0 L56 := by rw [l56]; exact Fr.app N53 N56q
      refine own_goW (fun tg k => st56 tg k) ?_
      show oG (T56.setTop (mkF m 332 #[oI p0, oJ q1, oS, oI p2, oI p3, oI p4, oJ q5, oS, oI z1, oI z2, oI z4, oI z6, oI z8, oI z10, oI z11, oI z12, oI z13, oI z14, .val (.int (p3 &&& (7 : Int32))), oI z22, oR b23, oI z55, .val (.int (own_dr f51 f52)), oU, oU, oU, oU] [(.int (own_f25 (if (0 : Int32) < z2 then (1 : Int32) else (0 : Int32)) (if z4 = z22 then (1 : Int32) else (0 : Int32))))]))
      refine own_goW (fun _ k => XS.iload X56.here hx rfl (hb hby at_332) rfl (XS.iconst X56.here hx rfl (hb hby at_334) (own_bc X56.here hx rfl (pc0 := 335) (pc' := 343) rfl (hb hby at_335) (hb hby at_338) (hb hby at_339) (hb hby at_342) rfl (own_yT (C := (1 : Int32) < z2) (fun h => (tlt h).2.2.2) (fun h => (flt h).2.2.2)) rfl (XS.iload X56.here hx rfl (hb hby at_343) rfl (XS.iload X56.here hx rfl (hb hby at_345) rfl (own_bc X56.here hx rfl (pc0 := 347) (pc' := 355) rfl (hb hby at_347) (hb hby at_350) (hb hby at_351) (hb hby at_354) rfl (own_yT (C := z6 = z22) (fun h => (teq h).2) (fun h => (feq h).2)) rfl k)))))) ?_
      have cq := Jvm.LawKit.callS X56 hx (y := oM29) hown (mvT hZ (oW hw 181 rfl)) (mvT hZ (oW hw 182 rfl)) (mvT hZ (oW hw 3 rfl)) (mvT hZ (oW hw 183 rfl)) (by decide) (backOf (W := 1) (rm25 l Z a0 hw [] (if (1 : Int32) < z2 then (1 : Int32) else (0 : Int32)) (if z6 = z22 then (1 : Int32) else (0 : Int32)) T53.heap n0 Z53) hZ (oW hw 183 rfl) (oW hw 3 rfl) (by decide) (by decide)) (g := (mkF m 355 #[oI p0, oJ q1, oS, oI p2, oI p3, oI p4, oJ q5, oS, oI z1, oI z2, oI z4, oI z6, oI z8, oI z10, oI z11, oI z12, oI z13, oI z14, .val (.int (p3 &&& (7 : Int32))), oI z22, oR b23, oI z55, .val (.int (own_dr f51 f52)), oU, oU, oU, oU] [(.int (if z6 = z22 then (1 : Int32) else (0 : Int32))), (.int (if (1 : Int32) < z2 then (1 : Int32) else (0 : Int32))), (.int (own_f25 (if (0 : Int32) < z2 then (1 : Int32) else (0 : Int32)) (if z4 = z22 then (1 : Int32) else (0 : Int32))))])) rfl (by rw [hml]; rfl) (argsL := [(.int (if (1 : Int32) < z2 then (1 : Int32) else (0 : Int32))), (.int (if z6 = z22 then (1 : Int32) else (0 : Int32)))]) (rest := [(.int (own_f25 (if (0 : Int32) < z2 then (1 : Int32) else (0 : Int32)) (if z4 = z22 then (1 : Int32) else (0 : Int32))))]) (lenOf own_pd1042 rfl) rfl (by show 2 * 0 + _ ≤ _; exact Nat.le_of_eq rfl) (hb hby at_355) (fun _ _ => ⟨rfl, e56, (by decide : 29 + 0 ≤ _), (by decide : 6484 + 0 ≤ _)⟩)
      obtain ⟨_, _, ⟨T57, L57, k57, n57⟩, -, X57, ⟨Lc57, hQ57, l57, y57, z57⟩, st57⟩ := cq
      dsimp only [Pt.U, Pt.locs, Pt.cells, Pt.slots] at X57 l57 y57 z57 st57 hQ57
      replace y57 : 29 = k57 := y57.symm
      replace z57 : 6484 = n57 := z57.symm
      subst y57 z57
      obtain ⟨rfl, N57q, e57⟩ := hQ57
      have N57 : Fr n0 L57 := by rw [l57]; exact Fr.app N56 N57q
      refine own_goW (fun tg k => st57 tg k) ?_
      show oG (T57.setTop (mkF m 358 #[oI p0, oJ q1, oS, oI p2, oI p3, oI p4, oJ q5, oS, oI z1, oI z2, oI z4, oI z6, oI z8, oI z10, oI z11, oI z12, oI z13, oI z14, .val (.int (p3 &&& (7 : Int32))), oI z22, oR b23, oI z55, .val (.int (own_dr f51 f52)), oU, oU, oU, oU] [(.int (own_f25 (if (1 : Int32) < z2 then (1 : Int32) else (0 : Int32)) (if z6 = z22 then (1 : Int32) else (0 : Int32)))), (.int (own_f25 (if (0 : Int32) < z2 then (1 : Int32) else (0 : Int32)) (if z4 = z22 then (1 : Int32) else (0 : Int32))))]))
      refine own_goW (fun _ k => XS.iadd X57.here hx rfl (hb hby at_358) rfl k) ?_
      generalize hz58 : ((own_f25 (if (0 : Int32) < z2 then (1 : Int32) else (0 : Int32)) (if z4 = z22 then (1 : Int32) else (0 : Int32))) + (own_f25 (if (1 : Int32) < z2 then (1 : Int32) else (0 : Int32)) (if z6 = z22 then (1 : Int32) else (0 : Int32)))) = z58
      show oG (T57.setTop (mkF m 359 #[oI p0, oJ q1, oS, oI p2, oI p3, oI p4, oJ q5, oS, oI z1, oI z2, oI z4, oI z6, oI z8, oI z10, oI z11, oI z12, oI z13, oI z14, .val (.int (p3 &&& (7 : Int32))), oI z22, oR b23, oI z55, .val (.int (own_dr f51 f52)), oU, oU, oU, oU] [(.int z58)]))
      refine own_goW (fun _ k => XS.iload X57.here hx rfl (hb hby at_359) rfl (XS.iconst X57.here hx rfl (hb hby at_361) (own_bc X57.here hx rfl (pc0 := 362) (pc' := 370) rfl (hb hby at_362) (hb hby at_365) (hb hby at_366) (hb hby at_369) rfl (own_yT (C := (2 : Int32) < z2) (fun h => (tlt h).2.2.2) (fun h => (flt h).2.2.2)) rfl (XS.iload X57.here hx rfl (hb hby at_370) rfl (XS.iload X57.here hx rfl (hb hby at_372) rfl (own_bc X57.here hx rfl (pc0 := 374) (pc' := 382) rfl (hb hby at_374) (hb hby at_377) (hb hby at_378) (hb hby at_381) rfl (own_yT (C := z8 = z22) (fun h => (teq h).2) (fun h => (feq h).2)) rfl k)))))) ?_
      have cq := Jvm.LawKit.callS X57 hx (y := oM29) hown (mvT hZ (oW hw 181 rfl)) (mvT hZ (oW hw 182 rfl)) (mvT hZ (oW hw 3 rfl)) (mvT hZ (oW hw 183 rfl)) (by decide) (backOf (W := 1) (rm25 l Z a0 hw [] (if (2 : Int32) < z2 then (1 : Int32) else (0 : Int32)) (if z8 = z22 then (1 : Int32) else (0 : Int32)) T53.heap n0 Z53) hZ (oW hw 183 rfl) (oW hw 3 rfl) (by decide) (by decide)) (g := (mkF m 382 #[oI p0, oJ q1, oS, oI p2, oI p3, oI p4, oJ q5, oS, oI z1, oI z2, oI z4, oI z6, oI z8, oI z10, oI z11, oI z12, oI z13, oI z14, .val (.int (p3 &&& (7 : Int32))), oI z22, oR b23, oI z55, .val (.int (own_dr f51 f52)), oU, oU, oU, oU] [(.int (if z8 = z22 then (1 : Int32) else (0 : Int32))), (.int (if (2 : Int32) < z2 then (1 : Int32) else (0 : Int32))), (.int z58)])) rfl (by rw [hml]; rfl) (argsL := [(.int (if (2 : Int32) < z2 then (1 : Int32) else (0 : Int32))), (.int (if z8 = z22 then (1 : Int32) else (0 : Int32)))]) (rest := [(.int z58)]) (lenOf own_pd1042 rfl) rfl (by show 2 * 0 + _ ≤ _; exact Nat.le_of_eq rfl) (hb hby at_382) (fun _ _ => ⟨rfl, e57, (by decide : 29 + 0 ≤ _), (by decide : 6484 + 0 ≤ _)⟩)
      obtain ⟨_, _, ⟨T59, L59, k59, n59⟩, -, X59, ⟨Lc59, hQ59, l59, y59, z59⟩, st59⟩ := cq
      dsimp only [Pt.U, Pt.locs, Pt.cells, Pt.slots] at X59 l59 y59 z59 st59 hQ59
      replace y59 : 29 = k59 := y59.symm
      replace z59 : 6484 = n59 := z59.symm
      subst y59 z59
      obtain ⟨rfl, N59q, e59⟩ := hQ59
      have N59 : Fr n0 L59 := by rw [l59]; exact Fr.app N57 N59q
      refine own_goW (fun tg k => st59 tg k) ?_
      show oG (T59.setTop (mkF m 385 #[oI p0, oJ q1, oS, oI p2, oI p3, oI p4, oJ q5, oS, oI z1, oI z2, oI z4, oI z6, oI z8, oI z10, oI z11, oI z12, oI z13, oI z14, .val (.int (p3 &&& (7 : Int32))), oI z22, oR b23, oI z55, .val (.int (own_dr f51 f52)), oU, oU, oU, oU] [(.int (own_f25 (if (2 : Int32) < z2 then (1 : Int32) else (0 : Int32)) (if z8 = z22 then (1 : Int32) else (0 : Int32)))), (.int z58)]))
      refine own_goW (fun _ k => XS.iadd X59.here hx rfl (hb hby at_385) rfl (XS.iload X59.here hx rfl (hb hby at_386) rfl (XS.iconst X59.here hx rfl (hb hby at_388) (own_bc X59.here hx rfl (pc0 := 389) (pc' := 397) rfl (hb hby at_389) (hb hby at_392) (hb hby at_393) (hb hby at_396) rfl (own_yT (C := (3 : Int32) < z2) (fun h => (tlt h).2.2.2) (fun h => (flt h).2.2.2)) rfl (XS.iload X59.here hx rfl (hb hby at_397) rfl (XS.iload X59.here hx rfl (hb hby at_399) rfl (own_bc X59.here hx rfl (pc0 := 401) (pc' := 409) rfl (hb hby at_401) (hb hby at_404) (hb hby at_405) (hb hby at_408) rfl (own_yT (C := z10 = z22) (fun h => (teq h).2) (fun h => (feq h).2)) rfl k))))))) ?_
      have cq := Jvm.LawKit.callS X59 hx (y := oM29) hown (mvT hZ (oW hw 181 rfl)) (mvT hZ (oW hw 182 rfl)) (mvT hZ (oW hw 3 rfl)) (mvT hZ (oW hw 183 rfl)) (by decide) (backOf (W := 1) (rm25 l Z a0 hw [] (if (3 : Int32) < z2 then (1 : Int32) else (0 : Int32)) (if z10 = z22 then (1 : Int32) else (0 : Int32)) T53.heap n0 Z53) hZ (oW hw 183 rfl) (oW hw 3 rfl) (by decide) (by decide)) (g := (mkF m 409 #[oI p0, oJ q1, oS, oI p2, oI p3, oI p4, oJ q5, oS, oI z1, oI z2, oI z4, oI z6, oI z8, oI z10, oI z11, oI z12, oI z13, oI z14, .val (.int (p3 &&& (7 : Int32))), oI z22, oR b23, oI z55, .val (.int (own_dr f51 f52)), oU, oU, oU, oU] [(.int (if z10 = z22 then (1 : Int32) else (0 : Int32))), (.int (if (3 : Int32) < z2 then (1 : Int32) else (0 : Int32))), (.int (z58 + (own_f25 (if (2 : Int32) < z2 then (1 : Int32) else (0 : Int32)) (if z8 = z22 then (1 : Int32) else (0 : Int32)))))])) rfl (by rw [hml]; rfl) (argsL := [(.int (if (3 : Int32) < z2 then (1 : Int32) else (0 : Int32))), (.int (if z10 = z22 then (1 : Int32) else (0 : Int32)))]) (rest := [(.int (z58 + (own_f25 (if (2 : Int32) < z2 then (1 : Int32) else (0 : Int32)) (if z8 = z22 then (1 : Int32) else (0 : Int32)))))]) (lenOf own_pd1042 rfl) rfl (by show 2 * 0 + _ ≤ _; exact Nat.le_of_eq rfl) (hb hby at_409) (fun _ _ => ⟨rfl, e59, (by decide : 29 + 0 ≤ _), (by decide : 6484 + 0 ≤ _)⟩)
      obtain ⟨_, _, ⟨T60, L60, k60, n60⟩, -, X60, ⟨Lc60, hQ60, l60, y60, z60⟩, st60⟩ := cq
      dsimp only [Pt.U, Pt.locs, Pt.cells, Pt.slots] at X60 l60 y60 z60 st60 hQ60
      replace y60 : 29 = k60 := y60.symm
      replace z60 : 6484 = n60 := z60.symm
      subst y60 z60
      obtain ⟨rfl, N60q, e60⟩ := hQ60
      have N60 : Fr n0 L60 := by rw [l60]; exact Fr.app N59 N60q
      refine own_goW (fun tg k => st60 tg k) ?_
      show oG (T60.setTop (mkF m 412 #[oI p0, oJ q1, oS, oI p2, oI p3, oI p4, oJ q5, oS, oI z1, oI z2, oI z4, oI z6, oI z8, oI z10, oI z11, oI z12, oI z13, oI z14, .val (.int (p3 &&& (7 : Int32))), oI z22, oR b23, oI z55, .val (.int (own_dr f51 f52)), oU, oU, oU, oU] [(.int (own_f25 (if (3 : Int32) < z2 then (1 : Int32) else (0 : Int32)) (if z10 = z22 then (1 : Int32) else (0 : Int32)))), (.int (z58 + (own_f25 (if (2 : Int32) < z2 then (1 : Int32) else (0 : Int32)) (if z8 = z22 then (1 : Int32) else (0 : Int32)))))]))
      refine own_goW (fun _ k => XS.iadd X60.here hx rfl (hb hby at_412) rfl k) ?_
      generalize hz61 : ((z58 + (own_f25 (if (2 : Int32) < z2 then (1 : Int32) else (0 : Int32)) (if z8 = z22 then (1 : Int32) else (0 : Int32)))) + (own_f25 (if (3 : Int32) < z2 then (1 : Int32) else (0 : Int32)) (if z10 = z22 then (1 : Int32) else (0 : Int32)))) = z61
      show oG (T60.setTop (mkF m 413 #[oI p0, oJ q1, oS, oI p2, oI p3, oI p4, oJ q5, oS, oI z1, oI z2, oI z4, oI z6, oI z8, oI z10, oI z11, oI z12, oI z13, oI z14, .val (.int (p3 &&& (7 : Int32))), oI z22, oR b23, oI z55, .val (.int (own_dr f51 f52)), oU, oU, oU, oU] [(.int z61)]))
      refine own_goW (fun _ k => XS.istore X60.here hx rfl (hb hby at_413) rfl (l' := #[oI p0, oJ q1, oS, oI p2, oI p3, oI p4, oJ q5, oS, oI z1, oI z2, oI z4, oI z6, oI z8, oI z10, oI z11, oI z12, oI z13, oI z14, .val (.int (p3 &&& (7 : Int32))), oI z22, oR b23, oI z55, .val (.int (own_dr f51 f52)), oI z61, oU, oU, oU]) rfl (XS.iload X60.here hx rfl (hb hby at_415) rfl (own_bi X60.here hx rfl (pc0 := 417) (pc' := 425) rfl (hb hby at_417) (hb hby at_420) (hb hby at_421) (hb hby at_424) rfl (own_yT (C := (0 : Int32) < z2) (fun h => ((if0 _ _).trans (tlt h).2.2.2)) (fun h => ((if0 _ _).trans (flt h).2.2.2))) rfl (XS.iload X60.here hx rfl (hb hby at_425) rfl (XS.iload X60.here hx rfl (hb hby at_427) rfl (own_bc X60.here hx rfl (pc0 := 429) (pc' := 437) rfl (hb hby at_429) (hb hby at_432) (hb hby at_433) (hb hby at_436) rfl (own_yF (C := z22 < z4) (fun h => (tlt h).2.2.1) (fun h => (flt h).2.2.1)) rfl k)))))) ?_
      have cq := Jvm.LawKit.callS X60 hx (y := oM29) hown (mvT hZ (oW hw 181 rfl)) (mvT hZ (oW hw 182 rfl)) (mvT hZ (oW hw 3 rfl)) (mvT hZ (oW hw 183 rfl)) (by decide) (backOf (W := 0) (rm25 l Z a0 hw [] (if (0 : Int32) < z2 then (1 : Int32) else (0 : Int32)) (if z22 < z4 then (0 : Int32) else (1 : Int32)) T53.heap n0 Z53) hZ (oW hw 183 rfl) (oW hw 3 rfl) (by decide) (by decide)) (g := (mkF m 437 #[oI p0, oJ q1, oS, oI p2, oI p3, oI p4, oJ q5, oS, oI z1, oI z2, oI z4, oI z6, oI z8, oI z10, oI z11, oI z12, oI z13, oI z14, .val (.int (p3 &&& (7 : Int32))), oI z22, oR b23, oI z55, .val (.int (own_dr f51 f52)), oI z61, oU, oU, oU] [(.int (if z22 < z4 then (0 : Int32) else (1 : Int32))), (.int (if (0 : Int32) < z2 then (1 : Int32) else (0 : Int32)))])) rfl (by rw [hml]; rfl) (argsL := [(.int (if (0 : Int32) < z2 then (1 : Int32) else (0 : Int32))), (.int (if z22 < z4 then (0 : Int32) else (1 : Int32)))]) (rest := []) (lenOf own_pd1042 rfl) rfl (by show 2 * 0 + _ ≤ _; exact Nat.le_of_eq rfl) (hb hby at_437) (fun _ _ => ⟨rfl, e60, (by decide : 29 + 0 ≤ _), (by decide : 6484 + 0 ≤ _)⟩)
      obtain ⟨_, _, ⟨T62, L62, k62, n62⟩, -, X62, ⟨Lc62, hQ62, l62, y62, z62⟩, st62⟩ := cq
      dsimp only [Pt.U, Pt.locs, Pt.cells, Pt.slots] at X62 l62 y62 z62 st62 hQ62
      replace y62 : 29 = k62 := y62.symm
      replace z62 : 6484 = n62 := z62.symm
      subst y62 z62
      obtain ⟨rfl, N62q, e62⟩ := hQ62
      have N62 : Fr n0 L62 := by rw [l62]; exact Fr.app N60 N62q
      refine own_goW (fun tg k => st62 tg k) ?_
      show oG (T62.setTop (mkF m 440 #[oI p0, oJ q1, oS, oI p2, oI p3, oI p4, oJ q5, oS, oI z1, oI z2, oI z4, oI z6, oI z8, oI z10, oI z11, oI z12, oI z13, oI z14, .val (.int (p3 &&& (7 : Int32))), oI z22, oR b23, oI z55, .val (.int (own_dr f51 f52)), oI z61, oU, oU, oU] [(.int (own_f25 (if (0 : Int32) < z2 then (1 : Int32) else (0 : Int32)) (if z22 < z4 then (0 : Int32) else (1 : Int32))))]))
      refine own_goW (fun _ k => XS.iload X62.here hx rfl (hb hby at_440) rfl (XS.iconst X62.here hx rfl (hb hby at_442) (own_bc X62.here hx rfl (pc0 := 443) (pc' := 451) rfl (hb hby at_443) (hb hby at_446) (hb hby at_447) (hb hby at_450) rfl (own_yT (C := (1 : Int32) < z2) (fun h => (tlt h).2.2.2) (fun h => (flt h).2.2.2)) rfl (XS.iload X62.here hx rfl (hb hby at_451) rfl (XS.iload X62.here hx rfl (hb hby at_453) rfl (own_bc X62.here hx rfl (pc0 := 455) (pc' := 463) rfl (hb hby at_455) (hb hby at_458) (hb hby at_459) (hb hby at_462) rfl (own_yF (C := z22 < z6) (fun h => (tlt h).2.2.1) (fun h => (flt h).2.2.1)) rfl k)))))) ?_
      have cq := Jvm.LawKit.callS X62 hx (y := oM29) hown (mvT hZ (oW hw 181 rfl)) (mvT hZ (oW hw 182 rfl)) (mvT hZ (oW hw 3 rfl)) (mvT hZ (oW hw 183 rfl)) (by decide) (backOf (W := 1) (rm25 l Z a0 hw [] (if (1 : Int32) < z2 then (1 : Int32) else (0 : Int32)) (if z22 < z6 then (0 : Int32) else (1 : Int32)) T53.heap n0 Z53) hZ (oW hw 183 rfl) (oW hw 3 rfl) (by decide) (by decide)) (g := (mkF m 463 #[oI p0, oJ q1, oS, oI p2, oI p3, oI p4, oJ q5, oS, oI z1, oI z2, oI z4, oI z6, oI z8, oI z10, oI z11, oI z12, oI z13, oI z14, .val (.int (p3 &&& (7 : Int32))), oI z22, oR b23, oI z55, .val (.int (own_dr f51 f52)), oI z61, oU, oU, oU] [(.int (if z22 < z6 then (0 : Int32) else (1 : Int32))), (.int (if (1 : Int32) < z2 then (1 : Int32) else (0 : Int32))), (.int (own_f25 (if (0 : Int32) < z2 then (1 : Int32) else (0 : Int32)) (if z22 < z4 then (0 : Int32) else (1 : Int32))))])) rfl (by rw [hml]; rfl) (argsL := [(.int (if (1 : Int32) < z2 then (1 : Int32) else (0 : Int32))), (.int (if z22 < z6 then (0 : Int32) else (1 : Int32)))]) (rest := [(.int (own_f25 (if (0 : Int32) < z2 then (1 : Int32) else (0 : Int32)) (if z22 < z4 then (0 : Int32) else (1 : Int32))))]) (lenOf own_pd1042 rfl) rfl (by show 2 * 0 + _ ≤ _; exact Nat.le_of_eq rfl) (hb hby at_463) (fun _ _ => ⟨rfl, e62, (by decide : 29 + 0 ≤ _), (by decide : 6484 + 0 ≤ _)⟩)
      obtain ⟨_, _, ⟨T63, L63, k63, n63⟩, -, X63, ⟨Lc63, hQ63, l63, y63, z63⟩, st63⟩ := cq
      dsimp only [Pt.U, Pt.locs, Pt.cells, Pt.slots] at X63 l63 y63 z63 st63 hQ63
      replace y63 : 29 = k63 := y63.symm
      replace z63 : 6484 = n63 := z63.symm
      subst y63 z63
      obtain ⟨rfl, N63q, e63⟩ := hQ63
      have N63 : Fr n0 L63 := by rw [l63]; exact Fr.app N62 N63q
      refine own_goW (fun tg k => st63 tg k) ?_
      show oG (T63.setTop (mkF m 466 #[oI p0, oJ q1, oS, oI p2, oI p3, oI p4, oJ q5, oS, oI z1, oI z2, oI z4, oI z6, oI z8, oI z10, oI z11, oI z12, oI z13, oI z14, .val (.int (p3 &&& (7 : Int32))), oI z22, oR b23, oI z55, .val (.int (own_dr f51 f52)), oI z61, oU, oU, oU] [(.int (own_f25 (if (1 : Int32) < z2 then (1 : Int32) else (0 : Int32)) (if z22 < z6 then (0 : Int32) else (1 : Int32)))), (.int (own_f25 (if (0 : Int32) < z2 then (1 : Int32) else (0 : Int32)) (if z22 < z4 then (0 : Int32) else (1 : Int32))))]))
      refine own_goW (fun _ k => XS.iadd X63.here hx rfl (hb hby at_466) rfl k) ?_
      generalize hz64 : ((own_f25 (if (0 : Int32) < z2 then (1 : Int32) else (0 : Int32)) (if z22 < z4 then (0 : Int32) else (1 : Int32))) + (own_f25 (if (1 : Int32) < z2 then (1 : Int32) else (0 : Int32)) (if z22 < z6 then (0 : Int32) else (1 : Int32)))) = z64
      show oG (T63.setTop (mkF m 467 #[oI p0, oJ q1, oS, oI p2, oI p3, oI p4, oJ q5, oS, oI z1, oI z2, oI z4, oI z6, oI z8, oI z10, oI z11, oI z12, oI z13, oI z14, .val (.int (p3 &&& (7 : Int32))), oI z22, oR b23, oI z55, .val (.int (own_dr f51 f52)), oI z61, oU, oU, oU] [(.int z64)]))
      refine own_goW (fun _ k => XS.iload X63.here hx rfl (hb hby at_467) rfl (XS.iconst X63.here hx rfl (hb hby at_469) (own_bc X63.here hx rfl (pc0 := 470) (pc' := 478) rfl (hb hby at_470) (hb hby at_473) (hb hby at_474) (hb hby at_477) rfl (own_yT (C := (2 : Int32) < z2) (fun h => (tlt h).2.2.2) (fun h => (flt h).2.2.2)) rfl (XS.iload X63.here hx rfl (hb hby at_478) rfl (XS.iload X63.here hx rfl (hb hby at_480) rfl (own_bc X63.here hx rfl (pc0 := 482) (pc' := 490) rfl (hb hby at_482) (hb hby at_485) (hb hby at_486) (hb hby at_489) rfl (own_yF (C := z22 < z8) (fun h => (tlt h).2.2.1) (fun h => (flt h).2.2.1)) rfl k)))))) ?_
      have cq := Jvm.LawKit.callS X63 hx (y := oM29) hown (mvT hZ (oW hw 181 rfl)) (mvT hZ (oW hw 182 rfl)) (mvT hZ (oW hw 3 rfl)) (mvT hZ (oW hw 183 rfl)) (by decide) (backOf (W := 1) (rm25 l Z a0 hw [] (if (2 : Int32) < z2 then (1 : Int32) else (0 : Int32)) (if z22 < z8 then (0 : Int32) else (1 : Int32)) T53.heap n0 Z53) hZ (oW hw 183 rfl) (oW hw 3 rfl) (by decide) (by decide)) (g := (mkF m 490 #[oI p0, oJ q1, oS, oI p2, oI p3, oI p4, oJ q5, oS, oI z1, oI z2, oI z4, oI z6, oI z8, oI z10, oI z11, oI z12, oI z13, oI z14, .val (.int (p3 &&& (7 : Int32))), oI z22, oR b23, oI z55, .val (.int (own_dr f51 f52)), oI z61, oU, oU, oU] [(.int (if z22 < z8 then (0 : Int32) else (1 : Int32))), (.int (if (2 : Int32) < z2 then (1 : Int32) else (0 : Int32))), (.int z64)])) rfl (by rw [hml]; rfl) (argsL := [(.int (if (2 : Int32) < z2 then (1 : Int32) else (0 : Int32))), (.int (if z22 < z8 then (0 : Int32) else (1 : Int32)))]) (rest := [(.int z64)]) (lenOf own_pd1042 rfl) rfl (by show 2 * 0 + _ ≤ _; exact Nat.le_of_eq rfl) (hb hby at_490) (fun _ _ => ⟨rfl, e63, (by decide : 29 + 0 ≤ _), (by decide : 6484 + 0 ≤ _)⟩)
      obtain ⟨_, _, ⟨T65, L65, k65, n65⟩, -, X65, ⟨Lc65, hQ65, l65, y65, z65⟩, st65⟩ := cq
      dsimp only [Pt.U, Pt.locs, Pt.cells, Pt.slots] at X65 l65 y65 z65 st65 hQ65
      replace y65 : 29 = k65 := y65.symm
      replace z65 : 6484 = n65 := z65.symm
      subst y65 z65
      obtain ⟨rfl, N65q, e65⟩ := hQ65
      have N65 : Fr n0 L65 := by rw [l65]; exact Fr.app N63 N65q
      refine own_goW (fun tg k => st65 tg k) ?_
      show oG (T65.setTop (mkF m 493 #[oI p0, oJ q1, oS, oI p2, oI p3, oI p4, oJ q5, oS, oI z1, oI z2, oI z4, oI z6, oI z8, oI z10, oI z11, oI z12, oI z13, oI z14, .val (.int (p3 &&& (7 : Int32))), oI z22, oR b23, oI z55, .val (.int (own_dr f51 f52)), oI z61, oU, oU, oU] [(.int (own_f25 (if (2 : Int32) < z2 then (1 : Int32) else (0 : Int32)) (if z22 < z8 then (0 : Int32) else (1 : Int32)))), (.int z64)]))
      refine own_goW (fun _ k => XS.iadd X65.here hx rfl (hb hby at_493) rfl (XS.iload X65.here hx rfl (hb hby at_494) rfl (XS.iconst X65.here hx rfl (hb hby at_496) (own_bc X65.here hx rfl (pc0 := 497) (pc' := 505) rfl (hb hby at_497) (hb hby at_500) (hb hby at_501) (hb hby at_504) rfl (own_yT (C := (3 : Int32) < z2) (fun h => (tlt h).2.2.2) (fun h => (flt h).2.2.2)) rfl (XS.iload X65.here hx rfl (hb hby at_505) rfl (XS.iload X65.here hx rfl (hb hby at_507) rfl (own_bc X65.here hx rfl (pc0 := 509) (pc' := 517) rfl (hb hby at_509) (hb hby at_512) (hb hby at_513) (hb hby at_516) rfl (own_yF (C := z22 < z10) (fun h => (tlt h).2.2.1) (fun h => (flt h).2.2.1)) rfl k))))))) ?_
      have cq := Jvm.LawKit.callS X65 hx (y := oM29) hown (mvT hZ (oW hw 181 rfl)) (mvT hZ (oW hw 182 rfl)) (mvT hZ (oW hw 3 rfl)) (mvT hZ (oW hw 183 rfl)) (by decide) (backOf (W := 1) (rm25 l Z a0 hw [] (if (3 : Int32) < z2 then (1 : Int32) else (0 : Int32)) (if z22 < z10 then (0 : Int32) else (1 : Int32)) T53.heap n0 Z53) hZ (oW hw 183 rfl) (oW hw 3 rfl) (by decide) (by decide)) (g := (mkF m 517 #[oI p0, oJ q1, oS, oI p2, oI p3, oI p4, oJ q5, oS, oI z1, oI z2, oI z4, oI z6, oI z8, oI z10, oI z11, oI z12, oI z13, oI z14, .val (.int (p3 &&& (7 : Int32))), oI z22, oR b23, oI z55, .val (.int (own_dr f51 f52)), oI z61, oU, oU, oU] [(.int (if z22 < z10 then (0 : Int32) else (1 : Int32))), (.int (if (3 : Int32) < z2 then (1 : Int32) else (0 : Int32))), (.int (z64 + (own_f25 (if (2 : Int32) < z2 then (1 : Int32) else (0 : Int32)) (if z22 < z8 then (0 : Int32) else (1 : Int32)))))])) rfl (by rw [hml]; rfl) (argsL := [(.int (if (3 : Int32) < z2 then (1 : Int32) else (0 : Int32))), (.int (if z22 < z10 then (0 : Int32) else (1 : Int32)))]) (rest := [(.int (z64 + (own_f25 (if (2 : Int32) < z2 then (1 : Int32) else (0 : Int32)) (if z22 < z8 then (0 : Int32) else (1 : Int32)))))]) (lenOf own_pd1042 rfl) rfl (by show 2 * 0 + _ ≤ _; exact Nat.le_of_eq rfl) (hb hby at_517) (fun _ _ => ⟨rfl, e65, (by decide : 29 + 0 ≤ _), (by decide : 6484 + 0 ≤ _)⟩)
      obtain ⟨_, _, ⟨T66, L66, k66, n66⟩, -, X66, ⟨Lc66, hQ66, l66, y66, z66⟩, st66⟩ := cq
      dsimp only [Pt.U, Pt.locs, Pt.cells, Pt.slots] at X66 l66 y66 z66 st66 hQ66
      replace y66 : 29 = k66 := y66.symm
      replace z66 : 6484 = n66 := z66.symm
      subst y66 z66
      obtain ⟨rfl, N66q, e66⟩ := hQ66
      have N66 : Fr n0 L66 := by rw [l66]; exact Fr.app N65 N66q
      refine own_goW (fun tg k => st66 tg k) ?_
      show oG (T66.setTop (mkF m 520 #[oI p0, oJ q1, oS, oI p2, oI p3, oI p4, oJ q5, oS, oI z1, oI z2, oI z4, oI z6, oI z8, oI z10, oI z11, oI z12, oI z13, oI z14, .val (.int (p3 &&& (7 : Int32))), oI z22, oR b23, oI z55, .val (.int (own_dr f51 f52)), oI z61, oU, oU, oU] [(.int (own_f25 (if (3 : Int32) < z2 then (1 : Int32) else (0 : Int32)) (if z22 < z10 then (0 : Int32) else (1 : Int32)))), (.int (z64 + (own_f25 (if (2 : Int32) < z2 then (1 : Int32) else (0 : Int32)) (if z22 < z8 then (0 : Int32) else (1 : Int32)))))]))
      refine own_goW (fun _ k => XS.iadd X66.here hx rfl (hb hby at_520) rfl k) ?_
      generalize hz67 : ((z64 + (own_f25 (if (2 : Int32) < z2 then (1 : Int32) else (0 : Int32)) (if z22 < z8 then (0 : Int32) else (1 : Int32)))) + (own_f25 (if (3 : Int32) < z2 then (1 : Int32) else (0 : Int32)) (if z22 < z10 then (0 : Int32) else (1 : Int32)))) = z67
      show oG (T66.setTop (mkF m 521 #[oI p0, oJ q1, oS, oI p2, oI p3, oI p4, oJ q5, oS, oI z1, oI z2, oI z4, oI z6, oI z8, oI z10, oI z11, oI z12, oI z13, oI z14, .val (.int (p3 &&& (7 : Int32))), oI z22, oR b23, oI z55, .val (.int (own_dr f51 f52)), oI z61, oU, oU, oU] [(.int z67)]))
      refine own_goW (fun _ k => XS.istore X66.here hx rfl (hb hby at_521) rfl (l' := #[oI p0, oJ q1, oS, oI p2, oI p3, oI p4, oJ q5, oS, oI z1, oI z2, oI z4, oI z6, oI z8, oI z10, oI z11, oI z12, oI z13, oI z14, .val (.int (p3 &&& (7 : Int32))), oI z22, oR b23, oI z55, .val (.int (own_dr f51 f52)), oI z61, oI z67, oU, oU]) rfl (XS.iload X66.here hx rfl (hb hby at_523) rfl k)) ?_
      have hk69 : ∀ (T' : State) (L' : List Loc), Stand p l e room_1 s m #[(.int p0), (.long q1), (.int p2), (.int p3), (.int p4), (.long q5)] below meth c T' L' 29 6484 → Fr n0 L' → T'.heap = T53.heap → own_FinW Z own_EL p.tables e below s00 (own_QL (some (.int (own_f0 p0 q1 p2 p3 p4 q5))) n0) 48 13760 (T'.setTop (mkF m 534 #[oI p0, oJ q1, oS, oI p2, oI p3, oI p4, oJ q5, oS, oI z1, oI z2, oI z4, oI z6, oI z8, oI z10, oI z11, oI z12, oI z13, oI z14, .val (.int (p3 &&& (7 : Int32))), oI z22, oR b23, oI z55, .val (.int (own_dr f51 f52)), oI z61, oI z67, oU, oU] [(.int (if z61 = (0 : Int32) then (0 : Int32) else z67))])) := by
       intro T70 L70 X70 N70 e70
       generalize hz71 : (if z61 = (0 : Int32) then (0 : Int32) else z67) = z71
       show oG (T70.setTop (mkF m 534 #[oI p0, oJ q1, oS, oI p2, oI p3, oI p4, oJ q5, oS, oI z1, oI z2, oI z4, oI z6, oI z8, oI z10, oI z11, oI z12, oI z13, oI z14, .val (.int (p3 &&& (7 : Int32))), oI z22, oR b23, oI z55, .val (.int (own_dr f51 f52)), oI z61, oI z67, oU, oU] [(.int z71)]))
       refine own_goW (fun _ k => XS.istore X70.here hx rfl (hb hby at_534) rfl (l' := #[oI p0, oJ q1, oS, oI p2, oI p3, oI p4, oJ q5, oS, oI z1, oI z2, oI z4, oI z6, oI z8, oI z10, oI z11, oI z12, oI z13, oI z14, .val (.int (p3 &&& (7 : Int32))), oI z22, oR b23, oI z55, .val (.int (own_dr f51 f52)), oI z61, oI z67, oI z71, oU]) rfl (XS.iload X70.here hx rfl (hb hby at_536) rfl (XS.aload X70.here hx rfl (hb hby at_538) rfl rfl (XS.iload X70.here hx rfl (hb hby at_540) rfl k)))) ?_
       have cq := isOf hZ e70 (own_exx H_am_53)
       obtain ⟨cq72, kq72, q72a, q72b, q72c⟩ := cq
       have cq := X70.virtualBack hx (y := oM32) (z := oM32) hown (mvT hZ (oW hw 64 rfl)) (mvT hZ (oW hw 65 rfl)) (notFace_of_selects (args := #[]) (mvT hZ (oW hw 67 rfl))) (mvT hZ (oW hw 67 rfl)) (mvT hZ (oW hw 66 rfl)) (by decide) (backOf (W := 1) (rm7H l Z a0 hw [] b23 z22 z1 (own_EEf (f51 ++ f52)) T53.heap n0 Z53 H_rd_54 hv19) hZ (oW hw 68 rfl) (oW hw 8 rfl) (by decide) (by decide)) q72a q72c (g := (mkF m 542 #[oI p0, oJ q1, oS, oI p2, oI p3, oI p4, oJ q5, oS, oI z1, oI z2, oI z4, oI z6, oI z8, oI z10, oI z11, oI z12, oI z13, oI z14, .val (.int (p3 &&& (7 : Int32))), oI z22, oR b23, oI z55, .val (.int (own_dr f51 f52)), oI z61, oI z67, oI z71, oU] [(.int z22), (.ref b23), (.int z55)])) rfl (by rw [hml]; rfl) (Steps.refl _) (argsL := [(.int z22)]) (rest := [(.int z55)]) (lenOf own_pd90 rfl) rfl (by show 2 * 0 + _ ≤ _; exact Nat.le_of_eq rfl) (hb hby at_542) (fun _ _ => ⟨rfl, e70, (by decide : 29 + 0 ≤ _), (by decide : 6484 + 0 ≤ _)⟩)
       obtain ⟨_, _, ⟨T72, L72, k72, n72⟩, -, X72, ⟨Lc72, hQ72, l72, y72, z72⟩, st72⟩ := cq
       dsimp only [Pt.U, Pt.locs, Pt.cells, Pt.slots] at X72 l72 y72 z72 st72 hQ72
       replace y72 : 29 = k72 := y72.symm
       replace z72 : 6484 = n72 := z72.symm
       subst y72 z72
       obtain ⟨rfl, N72q, e72⟩ := hQ72
       have N72 : Fr n0 L72 := by rw [l72]; exact Fr.app N70 N72q
       refine own_goW (fun tg k => st72.trans k) ?_
       show oG (T72.setTop (mkF m 545 #[oI p0, oJ q1, oS, oI p2, oI p3, oI p4, oJ q5, oS, oI z1, oI z2, oI z4, oI z6, oI z8, oI z10, oI z11, oI z12, oI z13, oI z14, .val (.int (p3 &&& (7 : Int32))), oI z22, oR b23, oI z55, .val (.int (own_dr f51 f52)), oI z61, oI z67, oI z71, oU] [(.int ((own_EEf (f51 ++ f52)) z22.toNatClampNeg)), (.int z55)]))
       refine own_goW (fun _ k => XS.iload X72.here hx rfl (hb hby at_545) rfl (own_bc X72.here hx rfl (pc0 := 547) (pc' := 555) rfl (hb hby at_547) (hb hby at_550) (hb hby at_551) (hb hby at_554) rfl (own_yT (C := ((own_EEf (f51 ++ f52)) z22.toNatClampNeg) = z71) (fun h => (teq h).2) (fun h => (feq h).2)) rfl (XS.iand X72.here hx rfl (hb hby at_555) rfl (XS.istore X72.here hx rfl (hb hby at_556) rfl (l' := #[oI p0, oJ q1, oS, oI p2, oI p3, oI p4, oJ q5, oS, oI z1, oI z2, oI z4, oI z6, oI z8, oI z10, oI z11, oI z12, oI z13, oI z14, .val (.int (p3 &&& (7 : Int32))), oI z22, oR b23, .val (.int (z55 &&& (if ((own_EEf (f51 ++ f52)) z22.toNatClampNeg) = z71 then (1 : Int32) else (0 : Int32)))), .val (.int (own_dr f51 f52)), oI z61, oI z67, oI z71, oU]) rfl k)))) ?_
       show oG (T72.setTop (mkF m 558 #[oI p0, oJ q1, oS, oI p2, oI p3, oI p4, oJ q5, oS, oI z1, oI z2, oI z4, oI z6, oI z8, oI z10, oI z11, oI z12, oI z13, oI z14, .val (.int (p3 &&& (7 : Int32))), oI z22, oR b23, .val (.int (z55 &&& (if ((own_EEf (f51 ++ f52)) z22.toNatClampNeg) = z71 then (1 : Int32) else (0 : Int32)))), .val (.int (own_dr f51 f52)), oI z61, oI z67, oI z71, oU] []))
       generalize hz73 : (z55 &&& (if ((own_EEf (f51 ++ f52)) z22.toNatClampNeg) = z71 then (1 : Int32) else (0 : Int32))) = z73
       show oG (T72.setTop (mkF m 558 #[oI p0, oJ q1, oS, oI p2, oI p3, oI p4, oJ q5, oS, oI z1, oI z2, oI z4, oI z6, oI z8, oI z10, oI z11, oI z12, oI z13, oI z14, .val (.int (p3 &&& (7 : Int32))), oI z22, oR b23, oI z73, .val (.int (own_dr f51 f52)), oI z61, oI z67, oI z71, oU] []))
       refine own_goW (fun _ k => XS.aload X72.here hx rfl (hb hby at_558) rfl rfl (XS.iconst X72.here hx rfl (hb hby at_560) k)) ?_
       have cq := isOf hZ e72 (own_exx H_am_53)
       obtain ⟨cq74, kq74, q74a, q74b, q74c⟩ := cq
       have cq := X72.virtualBack hx (y := oM31) (z := oM31) hown (mvT hZ (oW hw 98 rfl)) (mvT hZ (oW hw 99 rfl)) (notFace_of_selects (args := #[]) (mvT hZ (oW hw 101 rfl))) (mvT hZ (oW hw 101 rfl)) (mvT hZ (oW hw 100 rfl)) (by decide) (backOf (W := 0) (rm11D l Z a0 hw [] b23 (1 : Int32) z1 (f51 ++ f52) T53.heap n0 Z53 H_am_53) hZ (oW hw 102 rfl) (oW hw 8 rfl) (by decide) (by decide)) q74a q74c (g := (mkF m 561 #[oI p0, oJ q1, oS, oI p2, oI p3, oI p4, oJ q5, oS, oI z1, oI z2, oI z4, oI z6, oI z8, oI z10, oI z11, oI z12, oI z13, oI z14, .val (.int (p3 &&& (7 : Int32))), oI z22, oR b23, oI z73, .val (.int (own_dr f51 f52)), oI z61, oI z67, oI z71, oU] [(.int 1), (.ref b23)])) rfl (by rw [hml]; rfl) (Steps.refl _) (argsL := [(.int 1)]) (rest := []) (lenOf own_pd1041 rfl) rfl (by show 2 * 0 + _ ≤ _; exact Nat.le_of_eq rfl) (hb hby at_561) (fun _ _ => ⟨rfl, e72, (by decide : 29 + 4 ≤ _), (by decide : 6484 + 6152 ≤ _)⟩)
       obtain ⟨_, _, ⟨T74, L74, k74, n74⟩, -, X74, ⟨Lc74, hQ74, l74, y74, z74⟩, st74⟩ := cq
       dsimp only [Pt.U, Pt.locs, Pt.cells, Pt.slots] at X74 l74 y74 z74 st74 hQ74
       replace y74 : 33 = k74 := y74.symm
       replace z74 : 12636 = n74 := z74.symm
       subst y74 z74
       obtain ⟨rfl, N74q, sz74, H_rd_74⟩ := hQ74
       have N74 : Fr n0 L74 := by rw [l74]; exact Fr.app N72 N74q
       have Z74 : n0 ≤ T74.heap.size := Nat.le_trans Z53 sz74
       have Y74 : k24 ≤ T74.heap.size := Nat.le_trans Y53 sz74
       refine own_goW (fun tg k => st74.trans k) ?_
       show oG (T74.setTop (mkF m 564 #[oI p0, oJ q1, oS, oI p2, oI p3, oI p4, oJ q5, oS, oI z1, oI z2, oI z4, oI z6, oI z8, oI z10, oI z11, oI z12, oI z13, oI z14, .val (.int (p3 &&& (7 : Int32))), oI z22, oR b23, oI z73, .val (.int (own_dr f51 f52)), oI z61, oI z67, oI z71, oU] [(.int 0)]))
       refine own_goW (fun _ k => XS.istore X74.here hx rfl (hb hby at_564) rfl (l' := #[oI p0, oJ q1, oS, oI p2, oI p3, oI p4, oJ q5, oS, oI z1, oI z2, oI z4, oI z6, oI z8, oI z10, oI z11, oI z12, oI z13, oI z14, .val (.int (p3 &&& (7 : Int32))), oI z22, oR b23, oI z73, .val (.int (own_dr f51 f52)), oI z61, oI z67, oI z71, oI 0]) rfl (XS.iload X74.here hx rfl (hb hby at_566) rfl (XS.iload X74.here hx rfl (hb hby at_568) rfl (XS.ifNo X74.here hx rfl (hb hby at_570) rfl ((if0 _ _).trans (teq (by decide)).2) (XS.iconst X74.here hx rfl (hb hby at_573) (XS.goto X74.here hx rfl (pc0 := 574) (pc' := 578) rfl (hb hby at_574) (by decide) (by decide) (XS.iand X74.here hx rfl (hb hby at_578) rfl (XS.istore X74.here hx rfl (hb hby at_579) rfl (l' := #[oI p0, oJ q1, oS, oI p2, oI p3, oI p4, oJ q5, oS, oI z1, oI z2, oI z4, oI z6, oI z8, oI z10, oI z11, oI z12, oI z13, oI z14, .val (.int (p3 &&& (7 : Int32))), oI z22, oR b23, .val (.int (z73 &&& (1 : Int32))), .val (.int (own_dr f51 f52)), oI z61, oI z67, oI z71, oI 0]) rfl (XS.iload X74.here hx rfl (hb hby at_581) rfl k))))))))) ?_
       refine own_goW (fun _ k => XS.aload X74.here hx rfl (hb hby at_583) rfl rfl (XS.iload X74.here hx rfl (hb hby at_585) rfl k)) ?_
       have cq := isOf hZ rfl (own_exr H_rd_74)
       obtain ⟨cq75, kq75, q75a, q75b, q75c⟩ := cq
       have cq := X74.virtualBack hx (y := oM32) (z := oM32) hown (mvT hZ (oW hw 64 rfl)) (mvT hZ (oW hw 65 rfl)) (notFace_of_selects (args := #[]) (mvT hZ (oW hw 67 rfl))) (mvT hZ (oW hw 67 rfl)) (mvT hZ (oW hw 66 rfl)) (by decide) (backOf (W := 1) (rm7H l Z a0 hw [] b23 z22 z1 (fun _ => (0 : Int32)) T74.heap n0 Z74 H_rd_74 hv19) hZ (oW hw 68 rfl) (oW hw 8 rfl) (by decide) (by decide)) q75a q75c (g := (mkF m 587 #[oI p0, oJ q1, oS, oI p2, oI p3, oI p4, oJ q5, oS, oI z1, oI z2, oI z4, oI z6, oI z8, oI z10, oI z11, oI z12, oI z13, oI z14, .val (.int (p3 &&& (7 : Int32))), oI z22, oR b23, .val (.int (z73 &&& (1 : Int32))), .val (.int (own_dr f51 f52)), oI z61, oI z67, oI z71, oI 0] [(.int z22), (.ref b23), (.int (z73 &&& (1 : Int32)))])) rfl (by rw [hml]; rfl) (Steps.refl _) (argsL := [(.int z22)]) (rest := [(.int (z73 &&& (1 : Int32)))]) (lenOf own_pd90 rfl) rfl (by show 2 * 0 + _ ≤ _; exact Nat.le_of_eq rfl) (hb hby at_587) (fun _ _ => ⟨rfl, rfl, (by decide : 33 + 0 ≤ _), (by decide : 12636 + 0 ≤ _)⟩)
       obtain ⟨_, _, ⟨T75, L75, k75, n75⟩, -, X75, ⟨Lc75, hQ75, l75, y75, z75⟩, st75⟩ := cq
       dsimp only [Pt.U, Pt.locs, Pt.cells, Pt.slots] at X75 l75 y75 z75 st75 hQ75
       replace y75 : 33 = k75 := y75.symm
       replace z75 : 12636 = n75 := z75.symm
       subst y75 z75
       obtain ⟨rfl, N75q, e75⟩ := hQ75
       have N75 : Fr n0 L75 := by rw [l75]; exact Fr.app N74 N75q
       refine own_goW (fun tg k => st75.trans k) ?_
       show oG (T75.setTop (mkF m 590 #[oI p0, oJ q1, oS, oI p2, oI p3, oI p4, oJ q5, oS, oI z1, oI z2, oI z4, oI z6, oI z8, oI z10, oI z11, oI z12, oI z13, oI z14, .val (.int (p3 &&& (7 : Int32))), oI z22, oR b23, .val (.int (z73 &&& (1 : Int32))), .val (.int (own_dr f51 f52)), oI z61, oI z67, oI z71, oI 0] [(.int ((fun _ => (0 : Int32)) z22.toNatClampNeg)), (.int (z73 &&& (1 : Int32)))]))
       refine own_goW (fun _ k => own_bi X75.here hx rfl (pc0 := 590) (pc' := 598) rfl (hb hby at_590) (hb hby at_593) (hb hby at_594) (hb hby at_597) rfl (own_yT (C := ((fun _ => (0 : Int32)) z22.toNatClampNeg) = (0 : Int32)) (fun h => ((if0 _ _).trans (teq h).2)) (fun h => ((if0 _ _).trans (feq h).2))) rfl (XS.iand X75.here hx rfl (hb hby at_598) rfl (XS.istore X75.here hx rfl (hb hby at_599) rfl (l' := #[oI p0, oJ q1, oS, oI p2, oI p3, oI p4, oJ q5, oS, oI z1, oI z2, oI z4, oI z6, oI z8, oI z10, oI z11, oI z12, oI z13, oI z14, .val (.int (p3 &&& (7 : Int32))), oI z22, oR b23, .val (.int ((z73 &&& (1 : Int32)) &&& (if ((fun _ => (0 : Int32)) z22.toNatClampNeg) = (0 : Int32) then (1 : Int32) else (0 : Int32)))), .val (.int (own_dr f51 f52)), oI z61, oI z67, oI z71, oI 0]) rfl k))) ?_
       show oG (T75.setTop (mkF m 601 #[oI p0, oJ q1, oS, oI p2, oI p3, oI p4, oJ q5, oS, oI z1, oI z2, oI z4, oI z6, oI z8, oI z10, oI z11, oI z12, oI z13, oI z14, .val (.int (p3 &&& (7 : Int32))), oI z22, oR b23, .val (.int ((z73 &&& (1 : Int32)) &&& (if ((fun _ => (0 : Int32)) z22.toNatClampNeg) = (0 : Int32) then (1 : Int32) else (0 : Int32)))), .val (.int (own_dr f51 f52)), oI z61, oI z67, oI z71, oI 0] []))
       generalize hz76 : ((z73 &&& (1 : Int32)) &&& (if ((fun _ => (0 : Int32)) z22.toNatClampNeg) = (0 : Int32) then (1 : Int32) else (0 : Int32))) = z76
       show oG (T75.setTop (mkF m 601 #[oI p0, oJ q1, oS, oI p2, oI p3, oI p4, oJ q5, oS, oI z1, oI z2, oI z4, oI z6, oI z8, oI z10, oI z11, oI z12, oI z13, oI z14, .val (.int (p3 &&& (7 : Int32))), oI z22, oR b23, oI z76, .val (.int (own_dr f51 f52)), oI z61, oI z67, oI z71, oI 0] []))
       refine own_goW (fun _ k => XS.iload X75.here hx rfl (hb hby at_601) rfl k) ?_
       refine own_retW X75 hx hlk hS24 (by rw [e75]; exact Y74) Bd.returns (own_nar1 hz76) (Or.inl ⟨rfl, by simp, _, rfl⟩) (hb hby at_603) (Nat.le_of_ble_eq_true rfl) (Nat.le_of_ble_eq_true rfl) (own_chO X75 hS24) ?_
       exact ⟨(own_lf_own_f0_1 (p0 := p0) (q1 := q1) (p2 := p2) (p3 := p3) (p4 := p4) (q5 := q5) hz1 hz2 hz4 hz6 hz8 hz10 hz11 hz12 hz13 hz14 hz22 hz28 hf33 hf34 hf39 hf40 hf45 hf46 hf51 hf52 hz55 hz58 hz61 hz64 hz67 hz71 hz73 hz76), N75, trivial⟩
      by_cases hc68 : z61 = (0 : Int32)
      ·refine own_goW (fun _ k => XS.ifNo X66.here hx rfl (hb hby at_525) rfl ((if0 _ _).trans (teq hc68).2) (XS.iconst X66.here hx rfl (hb hby at_528) (XS.goto X66.here hx rfl (pc0 := 529) (pc' := 534) rfl (hb hby at_529) (by decide) (by decide) k))) ?_
       show oG (T66.setTop (mkF m 534 #[oI p0, oJ q1, oS, oI p2, oI p3, oI p4, oJ q5, oS, oI z1, oI z2, oI z4, oI z6, oI z8, oI z10, oI z11, oI z12, oI z13, oI z14, .val (.int (p3 &&& (7 : Int32))), oI z22, oR b23, oI z55, .val (.int (own_dr f51 f52)), oI z61, oI z67, oU, oU] [(.int 0)]))
       have kj := hk69 T66 _ (own_mono X66 (by decide) (by decide)) N66 e66
       simpa only [if_pos hc68] using kj
      ·refine own_goW (fun _ k => XS.ifYes X66.here hx rfl (pc0 := 525) (pc' := 532) rfl (hb hby at_525) rfl ((if0 _ _).trans (feq hc68).2) (by decide) (by decide) (XS.iload X66.here hx rfl (hb hby at_532) rfl k)) ?_
       show oG (T66.setTop (mkF m 534 #[oI p0, oJ q1, oS, oI p2, oI p3, oI p4, oJ q5, oS, oI z1, oI z2, oI z4, oI z6, oI z8, oI z10, oI z11, oI z12, oI z13, oI z14, .val (.int (p3 &&& (7 : Int32))), oI z22, oR b23, oI z55, .val (.int (own_dr f51 f52)), oI z61, oI z67, oU, oU] [(.int z67)]))
       have kj := hk69 T66 _ (own_mono X66 (by decide) (by decide)) N66 e66
       simpa only [if_neg hc68] using kj
     by_cases hc47 : (3 : Int32) < z2
     ·refine own_goW (fun _ k => XS.icmpNo X44.here hx rfl (hb hby at_252) rfl (tlt hc47).2.2.2 (XS.aload X44.here hx rfl (hb hby at_255) rfl rfl (XS.iload X44.here hx rfl (hb hby at_257) rfl (XS.iload X44.here hx rfl (hb hby at_259) rfl (XS.iconst X44.here hx rfl (hb hby at_261) (XS.iadd X44.here hx rfl (hb hby at_262) rfl (XS.iload X44.here hx rfl (hb hby at_263) rfl (XS.lload X44.here hx rfl (hb hby at_265) rfl k)))))))) ?_
      refine own_goW (fun _ k => X44.ldc2Long hx hown (mvT hZ (oW hw 204 rfl)) (g := (mkF m 267 #[oI p0, oJ q1, oS, oI p2, oI p3, oI p4, oJ q5, oS, oI z1, oI z2, oI z4, oI z6, oI z8, oI z10, oI z11, oI z12, oI z13, oI z14, .val (.int (p3 &&& (7 : Int32))), oI z22, oR b23, oI z28, oU, oU, oU, oU, oU] [(.long q5), (.int z10), (.int (p4 + (3 : Int32))), (.int z14), (.ref b23)])) rfl (hb hby at_267) _ k) ?_
      refine own_goW (fun _ k => XS.ladd X44.here hx rfl (hb hby at_270) rfl k) ?_
      have cq := isOf hZ e44 (own_exf H_am_44j)
      obtain ⟨cq49, kq49, q49a, q49b, q49c⟩ := cq
      have cq := X44.virtualBack hx (y := oM30) (z := oM30) hown (mvT hZ (oW hw 71 rfl)) (mvT hZ (oW hw 72 rfl)) (notFace_of_selects (args := #[]) (mvT hZ (oW hw 74 rfl))) (mvT hZ (oW hw 74 rfl)) (mvT hZ (oW hw 73 rfl)) (by decide) (backOf (W := 0) (rm8H l Z a0 hw [] b23 z14 (p4 + (3 : Int32)) z10 (q5 + (3 : Int64)) z1 f45 f46 h44j n0 Z44j H_am_44j (by rw [← hz14]; exact own_b01 _) (Nat.le_trans J2.1 (by decide))) hZ (oW hw 75 rfl) (oW hw 8 rfl) (by decide) (by decide)) q49a q49c (g := (mkF m 271 #[oI p0, oJ q1, oS, oI p2, oI p3, oI p4, oJ q5, oS, oI z1, oI z2, oI z4, oI z6, oI z8, oI z10, oI z11, oI z12, oI z13, oI z14, .val (.int (p3 &&& (7 : Int32))), oI z22, oR b23, oI z28, oU, oU, oU, oU, oU] [(.long (q5 + (3 : Int64))), (.int z10), (.int (p4 + (3 : Int32))), (.int z14), (.ref b23)])) rfl (by rw [hml]; rfl) (Steps.refl _) (argsL := [(.int z14), (.int (p4 + (3 : Int32))), (.int z10), (.long (q5 + (3 : Int64)))]) (rest := []) (lenOf own_pd1040 rfl) rfl (by show 2 * 0 + _ ≤ _; exact Nat.le_of_eq rfl) (hb hby at_271) (fun _ _ => ⟨rfl, e44, (by decide : 21 + 4 ≤ _), (by decide : 279 + 53 ≤ _)⟩)
      obtain ⟨_, _, ⟨T49, L49, k49, n49⟩, -, X49, ⟨Lc49, hQ49, l49, y49, z49⟩, st49⟩ := cq
      dsimp only [Pt.U, Pt.locs, Pt.cells, Pt.slots] at X49 l49 y49 z49 st49 hQ49
      replace y49 : 25 = k49 := y49.symm
      replace z49 : 332 = n49 := z49.symm
      subst y49 z49
      obtain ⟨rfl, N49q, sz49, H_am_49⟩ := hQ49
      have N49 : Fr n0 L49 := by rw [l49]; exact Fr.app N44 N49q
      have Z49 : n0 ≤ T49.heap.size := Nat.le_trans Z44j sz49
      have Y49 : k24 ≤ T49.heap.size := Nat.le_trans Y44j sz49
      refine own_goW (fun tg k => st49.trans k) ?_
      show oG (T49.setTop (mkF m 274 #[oI p0, oJ q1, oS, oI p2, oI p3, oI p4, oJ q5, oS, oI z1, oI z2, oI z4, oI z6, oI z8, oI z10, oI z11, oI z12, oI z13, oI z14, .val (.int (p3 &&& (7 : Int32))), oI z22, oR b23, oI z28, oU, oU, oU, oU, oU] []))
      have kj := hk48 T49 _ T49.heap (own_mono X49 (by decide) (by decide)) N49 rfl Z49 Y49 (by simp only [if_pos hc47]; exact H_am_49)
      simpa only [if_pos hc47] using kj
     ·refine own_goW (fun _ k => XS.icmpYes X44.here hx rfl (pc0 := 252) (pc' := 274) rfl (hb hby at_252) rfl (flt hc47).2.2.2 (by decide) (by decide) k) ?_
      show oG (T44.setTop (mkF m 274 #[oI p0, oJ q1, oS, oI p2, oI p3, oI p4, oJ q5, oS, oI z1, oI z2, oI z4, oI z6, oI z8, oI z10, oI z11, oI z12, oI z13, oI z14, .val (.int (p3 &&& (7 : Int32))), oI z22, oR b23, oI z28, oU, oU, oU, oU, oU] []))
      have kj := hk48 T44 _ h44j (own_mono X44 (by decide) (by decide)) N44 e44 Z44j Y44j (by simp only [if_neg hc47]; exact H_am_44j)
      simpa only [if_neg hc47] using kj
    by_cases hc41 : (2 : Int32) < z2
    ·refine own_goW (fun _ k => XS.icmpNo X38.here hx rfl (hb hby at_227) rfl (tlt hc41).2.2.2 (XS.aload X38.here hx rfl (hb hby at_230) rfl rfl (XS.iload X38.here hx rfl (hb hby at_232) rfl (XS.iload X38.here hx rfl (hb hby at_234) rfl (XS.iconst X38.here hx rfl (hb hby at_236) (XS.iadd X38.here hx rfl (hb hby at_237) rfl (XS.iload X38.here hx rfl (hb hby at_238) rfl (XS.lload X38.here hx rfl (hb hby at_240) rfl k)))))))) ?_
     refine own_goW (fun _ k => X38.ldc2Long hx hown (mvT hZ (oW hw 203 rfl)) (g := (mkF m 242 #[oI p0, oJ q1, oS, oI p2, oI p3, oI p4, oJ q5, oS, oI z1, oI z2, oI z4, oI z6, oI z8, oI z10, oI z11, oI z12, oI z13, oI z14, .val (.int (p3 &&& (7 : Int32))), oI z22, oR b23, oI z28, oU, oU, oU, oU, oU] [(.long q5), (.int z8), (.int (p4 + (2 : Int32))), (.int z13), (.ref b23)])) rfl (hb hby at_242) _ k) ?_
     refine own_goW (fun _ k => XS.ladd X38.here hx rfl (hb hby at_245) rfl k) ?_
     have cq := isOf hZ e38 (own_exf H_am_38j)
     obtain ⟨cq43, kq43, q43a, q43b, q43c⟩ := cq
     have cq := X38.virtualBack hx (y := oM30) (z := oM30) hown (mvT hZ (oW hw 71 rfl)) (mvT hZ (oW hw 72 rfl)) (notFace_of_selects (args := #[]) (mvT hZ (oW hw 74 rfl))) (mvT hZ (oW hw 74 rfl)) (mvT hZ (oW hw 73 rfl)) (by decide) (backOf (W := 0) (rm8H l Z a0 hw [] b23 z13 (p4 + (2 : Int32)) z8 (q5 + (2 : Int64)) z1 f39 f40 h38j n0 Z38j H_am_38j (by rw [← hz13]; exact own_b01 _) (Nat.le_trans J1.1 (by decide))) hZ (oW hw 75 rfl) (oW hw 8 rfl) (by decide) (by decide)) q43a q43c (g := (mkF m 246 #[oI p0, oJ q1, oS, oI p2, oI p3, oI p4, oJ q5, oS, oI z1, oI z2, oI z4, oI z6, oI z8, oI z10, oI z11, oI z12, oI z13, oI z14, .val (.int (p3 &&& (7 : Int32))), oI z22, oR b23, oI z28, oU, oU, oU, oU, oU] [(.long (q5 + (2 : Int64))), (.int z8), (.int (p4 + (2 : Int32))), (.int z13), (.ref b23)])) rfl (by rw [hml]; rfl) (Steps.refl _) (argsL := [(.int z13), (.int (p4 + (2 : Int32))), (.int z8), (.long (q5 + (2 : Int64)))]) (rest := []) (lenOf own_pd1040 rfl) rfl (by show 2 * 0 + _ ≤ _; exact Nat.le_of_eq rfl) (hb hby at_246) (fun _ _ => ⟨rfl, e38, (by decide : 17 + 4 ≤ _), (by decide : 226 + 53 ≤ _)⟩)
     obtain ⟨_, _, ⟨T43, L43, k43, n43⟩, -, X43, ⟨Lc43, hQ43, l43, y43, z43⟩, st43⟩ := cq
     dsimp only [Pt.U, Pt.locs, Pt.cells, Pt.slots] at X43 l43 y43 z43 st43 hQ43
     replace y43 : 21 = k43 := y43.symm
     replace z43 : 279 = n43 := z43.symm
     subst y43 z43
     obtain ⟨rfl, N43q, sz43, H_am_43⟩ := hQ43
     have N43 : Fr n0 L43 := by rw [l43]; exact Fr.app N38 N43q
     have Z43 : n0 ≤ T43.heap.size := Nat.le_trans Z38j sz43
     have Y43 : k24 ≤ T43.heap.size := Nat.le_trans Y38j sz43
     refine own_goW (fun tg k => st43.trans k) ?_
     show oG (T43.setTop (mkF m 249 #[oI p0, oJ q1, oS, oI p2, oI p3, oI p4, oJ q5, oS, oI z1, oI z2, oI z4, oI z6, oI z8, oI z10, oI z11, oI z12, oI z13, oI z14, .val (.int (p3 &&& (7 : Int32))), oI z22, oR b23, oI z28, oU, oU, oU, oU, oU] []))
     have kj := hk42 T43 _ T43.heap (own_mono X43 (by decide) (by decide)) N43 rfl Z43 Y43 (by simp only [if_pos hc41]; exact H_am_43)
     simpa only [if_pos hc41] using kj
    ·refine own_goW (fun _ k => XS.icmpYes X38.here hx rfl (pc0 := 227) (pc' := 249) rfl (hb hby at_227) rfl (flt hc41).2.2.2 (by decide) (by decide) k) ?_
     show oG (T38.setTop (mkF m 249 #[oI p0, oJ q1, oS, oI p2, oI p3, oI p4, oJ q5, oS, oI z1, oI z2, oI z4, oI z6, oI z8, oI z10, oI z11, oI z12, oI z13, oI z14, .val (.int (p3 &&& (7 : Int32))), oI z22, oR b23, oI z28, oU, oU, oU, oU, oU] []))
     have kj := hk42 T38 _ h38j (own_mono X38 (by decide) (by decide)) N38 e38 Z38j Y38j (by simp only [if_neg hc41]; exact H_am_38j)
     simpa only [if_neg hc41] using kj
   by_cases hc35 : (1 : Int32) < z2
   ·refine own_goW (fun _ k => XS.icmpNo X32.here hx rfl (hb hby at_204) rfl (tlt hc35).2.2.2 (XS.aload X32.here hx rfl (hb hby at_207) rfl rfl (XS.iload X32.here hx rfl (hb hby at_209) rfl (XS.iload X32.here hx rfl (hb hby at_211) rfl (XS.iconst X32.here hx rfl (hb hby at_213) (XS.iadd X32.here hx rfl (hb hby at_214) rfl (XS.iload X32.here hx rfl (hb hby at_215) rfl (XS.lload X32.here hx rfl (hb hby at_217) rfl (XS.lconst X32.here hx rfl (hb hby at_219) (XS.ladd X32.here hx rfl (hb hby at_220) rfl k)))))))))) ?_
    have cq := isOf hZ e32 (own_exf H_am_32j)
    obtain ⟨cq37, kq37, q37a, q37b, q37c⟩ := cq
    have cq := X32.virtualBack hx (y := oM30) (z := oM30) hown (mvT hZ (oW hw 71 rfl)) (mvT hZ (oW hw 72 rfl)) (notFace_of_selects (args := #[]) (mvT hZ (oW hw 74 rfl))) (mvT hZ (oW hw 74 rfl)) (mvT hZ (oW hw 73 rfl)) (by decide) (backOf (W := 0) (rm8H l Z a0 hw [] b23 z12 (p4 + (1 : Int32)) z6 (q5 + (1 : Int64)) z1 f33 f34 h32j n0 Z32j H_am_32j (by rw [← hz12]; exact own_b01 _) (Nat.le_trans J0.1 (by decide))) hZ (oW hw 75 rfl) (oW hw 8 rfl) (by decide) (by decide)) q37a q37c (g := (mkF m 221 #[oI p0, oJ q1, oS, oI p2, oI p3, oI p4, oJ q5, oS, oI z1, oI z2, oI z4, oI z6, oI z8, oI z10, oI z11, oI z12, oI z13, oI z14, .val (.int (p3 &&& (7 : Int32))), oI z22, oR b23, oI z28, oU, oU, oU, oU, oU] [(.long (q5 + (1 : Int64))), (.int z6), (.int (p4 + (1 : Int32))), (.int z12), (.ref b23)])) rfl (by rw [hml]; rfl) (Steps.refl _) (argsL := [(.int z12), (.int (p4 + (1 : Int32))), (.int z6), (.long (q5 + (1 : Int64)))]) (rest := []) (lenOf own_pd1040 rfl) rfl (by show 2 * 0 + _ ≤ _; exact Nat.le_of_eq rfl) (hb hby at_221) (fun _ _ => ⟨rfl, e32, (by decide : 13 + 4 ≤ _), (by decide : 173 + 53 ≤ _)⟩)
    obtain ⟨_, _, ⟨T37, L37, k37, n37⟩, -, X37, ⟨Lc37, hQ37, l37, y37, z37⟩, st37⟩ := cq
    dsimp only [Pt.U, Pt.locs, Pt.cells, Pt.slots] at X37 l37 y37 z37 st37 hQ37
    replace y37 : 17 = k37 := y37.symm
    replace z37 : 226 = n37 := z37.symm
    subst y37 z37
    obtain ⟨rfl, N37q, sz37, H_am_37⟩ := hQ37
    have N37 : Fr n0 L37 := by rw [l37]; exact Fr.app N32 N37q
    have Z37 : n0 ≤ T37.heap.size := Nat.le_trans Z32j sz37
    have Y37 : k24 ≤ T37.heap.size := Nat.le_trans Y32j sz37
    refine own_goW (fun tg k => st37.trans k) ?_
    show oG (T37.setTop (mkF m 224 #[oI p0, oJ q1, oS, oI p2, oI p3, oI p4, oJ q5, oS, oI z1, oI z2, oI z4, oI z6, oI z8, oI z10, oI z11, oI z12, oI z13, oI z14, .val (.int (p3 &&& (7 : Int32))), oI z22, oR b23, oI z28, oU, oU, oU, oU, oU] []))
    have kj := hk36 T37 _ T37.heap (own_mono X37 (by decide) (by decide)) N37 rfl Z37 Y37 (by simp only [if_pos hc35]; exact H_am_37)
    simpa only [if_pos hc35] using kj
   ·refine own_goW (fun _ k => XS.icmpYes X32.here hx rfl (pc0 := 204) (pc' := 224) rfl (hb hby at_204) rfl (flt hc35).2.2.2 (by decide) (by decide) k) ?_
    show oG (T32.setTop (mkF m 224 #[oI p0, oJ q1, oS, oI p2, oI p3, oI p4, oJ q5, oS, oI z1, oI z2, oI z4, oI z6, oI z8, oI z10, oI z11, oI z12, oI z13, oI z14, .val (.int (p3 &&& (7 : Int32))), oI z22, oR b23, oI z28, oU, oU, oU, oU, oU] []))
    have kj := hk36 T32 _ h32j (own_mono X32 (by decide) (by decide)) N32 e32 Z32j Y32j (by simp only [if_neg hc35]; exact H_am_32j)
    simpa only [if_neg hc35] using kj
  by_cases hc29 : (0 : Int32) < z2
  ·refine own_goW (fun _ k => XS.ifNo X27.here hx rfl (hb hby at_185) rfl ((if0 _ _).trans (tlt hc29).2.2.2) (XS.aload X27.here hx rfl (hb hby at_188) rfl rfl (XS.iload X27.here hx rfl (hb hby at_190) rfl (XS.iload X27.here hx rfl (hb hby at_192) rfl (XS.iload X27.here hx rfl (hb hby at_194) rfl (XS.lload X27.here hx rfl (hb hby at_196) rfl k)))))) ?_
   have cq := isOf hZ e27 (own_exf H_am_26)
   obtain ⟨cq31, kq31, q31a, q31b, q31c⟩ := cq
   have cq := X27.virtualBack hx (y := oM30) (z := oM30) hown (mvT hZ (oW hw 71 rfl)) (mvT hZ (oW hw 72 rfl)) (notFace_of_selects (args := #[]) (mvT hZ (oW hw 74 rfl))) (mvT hZ (oW hw 74 rfl)) (mvT hZ (oW hw 73 rfl)) (by decide) (backOf (W := 0) (rm8H l Z a0 hw [] b23 z11 p4 z4 q5 z1 [] [] T25.heap n0 Z25 H_am_26 (by rw [← hz11]; exact own_b01 _) (Nat.le_trans (own_J0 z1).1 (by decide))) hZ (oW hw 75 rfl) (oW hw 8 rfl) (by decide) (by decide)) q31a q31c (g := (mkF m 198 #[oI p0, oJ q1, oS, oI p2, oI p3, oI p4, oJ q5, oS, oI z1, oI z2, oI z4, oI z6, oI z8, oI z10, oI z11, oI z12, oI z13, oI z14, .val (.int (p3 &&& (7 : Int32))), oI z22, oR b23, oI z28, oU, oU, oU, oU, oU] [(.long q5), (.int z4), (.int p4), (.int z11), (.ref b23)])) rfl (by rw [hml]; rfl) (Steps.refl _) (argsL := [(.int z11), (.int p4), (.int z4), (.long q5)]) (rest := []) (lenOf own_pd1040 rfl) rfl (by show 2 * 0 + _ ≤ _; exact Nat.le_of_eq rfl) (hb hby at_198) (fun _ _ => ⟨rfl, e27, (by decide : 9 + 4 ≤ _), (by decide : 120 + 53 ≤ _)⟩)
   obtain ⟨_, _, ⟨T31, L31, k31, n31⟩, -, X31, ⟨Lc31, hQ31, l31, y31, z31⟩, st31⟩ := cq
   dsimp only [Pt.U, Pt.locs, Pt.cells, Pt.slots] at X31 l31 y31 z31 st31 hQ31
   replace y31 : 13 = k31 := y31.symm
   replace z31 : 173 = n31 := z31.symm
   subst y31 z31
   obtain ⟨rfl, N31q, sz31, H_am_31⟩ := hQ31
   have N31 : Fr n0 L31 := by rw [l31]; exact Fr.app N27 N31q
   have Z31 : n0 ≤ T31.heap.size := Nat.le_trans Z25 sz31
   have Y31 : k24 ≤ T31.heap.size := Nat.le_trans Y25 sz31
   refine own_goW (fun tg k => st31.trans k) ?_
   show oG (T31.setTop (mkF m 201 #[oI p0, oJ q1, oS, oI p2, oI p3, oI p4, oJ q5, oS, oI z1, oI z2, oI z4, oI z6, oI z8, oI z10, oI z11, oI z12, oI z13, oI z14, .val (.int (p3 &&& (7 : Int32))), oI z22, oR b23, oI z28, oU, oU, oU, oU, oU] []))
   have kj := hk30 T31 _ T31.heap (own_mono X31 (by decide) (by decide)) N31 rfl Z31 Y31 (by simp only [if_pos hc29]; exact H_am_31)
   simpa only [if_pos hc29] using kj
  ·refine own_goW (fun _ k => XS.ifYes X27.here hx rfl (pc0 := 185) (pc' := 201) rfl (hb hby at_185) rfl ((if0 _ _).trans (flt hc29).2.2.2) (by decide) (by decide) k) ?_
   show oG (T27.setTop (mkF m 201 #[oI p0, oJ q1, oS, oI p2, oI p3, oI p4, oJ q5, oS, oI z1, oI z2, oI z4, oI z6, oI z8, oI z10, oI z11, oI z12, oI z13, oI z14, .val (.int (p3 &&& (7 : Int32))), oI z22, oR b23, oI z28, oU, oU, oU, oU, oU] []))
   have kj := hk30 T27 _ T25.heap (own_mono X27 (by decide) (by decide)) N27 e27 Z25 Y25 (by simp only [if_neg hc29]; exact H_am_26)
   simpa only [if_neg hc29] using kj
 by_cases hc15 : (p3 &&& (7 : Int32)) = (0 : Int32)
 ·refine own_goW (fun _ k => XS.ifNo X9.here hx rfl (hb hby at_94) rfl ((if0 _ _).trans (teq hc15).2) (XS.iload X9.here hx rfl (hb hby at_97) rfl (XS.istore X9.here hx rfl (hb hby at_99) rfl (l' := #[oI p0, oJ q1, oS, oI p2, oI p3, oI p4, oJ q5, oS, oI z1, oI z2, oI z4, oI z6, oI z8, oI z10, oI z11, oI z12, oI z13, oI z14, .val (.int (p3 &&& (7 : Int32))), oI z4, oU, oU, oU, oU, oU, oU, oU]) rfl (XS.goto X9.here hx rfl (pc0 := 101) (pc' := 152) rfl (hb hby at_101) (by decide) (by decide) k)))) ?_
  show oG (T9.setTop (mkF m 152 #[oI p0, oJ q1, oS, oI p2, oI p3, oI p4, oJ q5, oS, oI z1, oI z2, oI z4, oI z6, oI z8, oI z10, oI z11, oI z12, oI z13, oI z14, .val (.int (p3 &&& (7 : Int32))), oI z4, oU, oU, oU, oU, oU, oU, oU] []))
  have kj := hk16 T9 _ (own_mono X9 (by decide) (by decide)) N9 e9
  simpa only [if_pos hc15] using kj
 ·refine own_goW (fun _ k => XS.ifYes X9.here hx rfl (pc0 := 94) (pc' := 104) rfl (hb hby at_94) rfl ((if0 _ _).trans (feq hc15).2) (by decide) (by decide) (XS.iload X9.here hx rfl (hb hby at_104) rfl (XS.iconst X9.here hx rfl (hb hby at_106) k))) ?_
  by_cases hc17 : (p3 &&& (7 : Int32)) = (1 : Int32)
  ·refine own_goW (fun _ k => XS.icmpNo X9.here hx rfl (hb hby at_107) rfl (teq hc17).2 (XS.iload X9.here hx rfl (hb hby at_110) rfl (XS.istore X9.here hx rfl (hb hby at_112) rfl (l' := #[oI p0, oJ q1, oS, oI p2, oI p3, oI p4, oJ q5, oS, oI z1, oI z2, oI z4, oI z6, oI z8, oI z10, oI z11, oI z12, oI z13, oI z14, .val (.int (p3 &&& (7 : Int32))), oI z6, oU, oU, oU, oU, oU, oU, oU]) rfl (XS.goto X9.here hx rfl (pc0 := 114) (pc' := 152) rfl (hb hby at_114) (by decide) (by decide) k)))) ?_
   show oG (T9.setTop (mkF m 152 #[oI p0, oJ q1, oS, oI p2, oI p3, oI p4, oJ q5, oS, oI z1, oI z2, oI z4, oI z6, oI z8, oI z10, oI z11, oI z12, oI z13, oI z14, .val (.int (p3 &&& (7 : Int32))), oI z6, oU, oU, oU, oU, oU, oU, oU] []))
   have kj := hk16 T9 _ (own_mono X9 (by decide) (by decide)) N9 e9
   simpa only [if_neg hc15, if_pos hc17] using kj
  ·refine own_goW (fun _ k => XS.icmpYes X9.here hx rfl (pc0 := 107) (pc' := 117) rfl (hb hby at_107) rfl (feq hc17).2 (by decide) (by decide) (XS.iload X9.here hx rfl (hb hby at_117) rfl (XS.iconst X9.here hx rfl (hb hby at_119) k))) ?_
   by_cases hc18 : (p3 &&& (7 : Int32)) = (2 : Int32)
   ·refine own_goW (fun _ k => XS.icmpNo X9.here hx rfl (hb hby at_120) rfl (teq hc18).2 (XS.iload X9.here hx rfl (hb hby at_123) rfl (XS.istore X9.here hx rfl (hb hby at_125) rfl (l' := #[oI p0, oJ q1, oS, oI p2, oI p3, oI p4, oJ q5, oS, oI z1, oI z2, oI z4, oI z6, oI z8, oI z10, oI z11, oI z12, oI z13, oI z14, .val (.int (p3 &&& (7 : Int32))), oI z8, oU, oU, oU, oU, oU, oU, oU]) rfl (XS.goto X9.here hx rfl (pc0 := 127) (pc' := 152) rfl (hb hby at_127) (by decide) (by decide) k)))) ?_
    show oG (T9.setTop (mkF m 152 #[oI p0, oJ q1, oS, oI p2, oI p3, oI p4, oJ q5, oS, oI z1, oI z2, oI z4, oI z6, oI z8, oI z10, oI z11, oI z12, oI z13, oI z14, .val (.int (p3 &&& (7 : Int32))), oI z8, oU, oU, oU, oU, oU, oU, oU] []))
    have kj := hk16 T9 _ (own_mono X9 (by decide) (by decide)) N9 e9
    simpa only [if_neg hc15, if_neg hc17, if_pos hc18] using kj
   ·refine own_goW (fun _ k => XS.icmpYes X9.here hx rfl (pc0 := 120) (pc' := 130) rfl (hb hby at_120) rfl (feq hc18).2 (by decide) (by decide) (XS.iload X9.here hx rfl (hb hby at_130) rfl (XS.iconst X9.here hx rfl (hb hby at_132) k))) ?_
    by_cases hc19 : (p3 &&& (7 : Int32)) = (3 : Int32)
    ·refine own_goW (fun _ k => XS.icmpNo X9.here hx rfl (hb hby at_133) rfl (teq hc19).2 (XS.iload X9.here hx rfl (hb hby at_136) rfl (XS.istore X9.here hx rfl (hb hby at_138) rfl (l' := #[oI p0, oJ q1, oS, oI p2, oI p3, oI p4, oJ q5, oS, oI z1, oI z2, oI z4, oI z6, oI z8, oI z10, oI z11, oI z12, oI z13, oI z14, .val (.int (p3 &&& (7 : Int32))), oI z10, oU, oU, oU, oU, oU, oU, oU]) rfl (XS.goto X9.here hx rfl (pc0 := 140) (pc' := 152) rfl (hb hby at_140) (by decide) (by decide) k)))) ?_
     show oG (T9.setTop (mkF m 152 #[oI p0, oJ q1, oS, oI p2, oI p3, oI p4, oJ q5, oS, oI z1, oI z2, oI z4, oI z6, oI z8, oI z10, oI z11, oI z12, oI z13, oI z14, .val (.int (p3 &&& (7 : Int32))), oI z10, oU, oU, oU, oU, oU, oU, oU] []))
     have kj := hk16 T9 _ (own_mono X9 (by decide) (by decide)) N9 e9
     simpa only [if_neg hc15, if_neg hc17, if_neg hc18, if_pos hc19] using kj
    ·refine own_goW (fun _ k => XS.icmpYes X9.here hx rfl (pc0 := 133) (pc' := 143) rfl (hb hby at_133) rfl (feq hc19).2 (by decide) (by decide) (XS.iload X9.here hx rfl (hb hby at_143) rfl (XS.iconst X9.here hx rfl (hb hby at_145) (XS.iushr X9.here hx rfl (hb hby at_146) rfl k)))) ?_
     show oG (T9.setTop (mkF m 147 #[oI p0, oJ q1, oS, oI p2, oI p3, oI p4, oJ q5, oS, oI z1, oI z2, oI z4, oI z6, oI z8, oI z10, oI z11, oI z12, oI z13, oI z14, .val (.int (p3 &&& (7 : Int32))), oU, oU, oU, oU, oU, oU, oU, oU] [(.int (own_iushr p3 (3 : Int32)))]))
     refine own_goW (fun _ k => XS.iload X9.here hx rfl (hb hby at_147) rfl (own_irem X9.here hx rfl (hb hby at_149) rfl (own_npos hn1).2 (XS.istore X9.here hx rfl (hb hby at_150) rfl (l' := #[oI p0, oJ q1, oS, oI p2, oI p3, oI p4, oJ q5, oS, oI z1, oI z2, oI z4, oI z6, oI z8, oI z10, oI z11, oI z12, oI z13, oI z14, .val (.int (p3 &&& (7 : Int32))), .val (.int ((own_iushr p3 (3 : Int32)) % z1)), oU, oU, oU, oU, oU, oU, oU]) rfl k))) ?_
     show oG (T9.setTop (mkF m 152 #[oI p0, oJ q1, oS, oI p2, oI p3, oI p4, oJ q5, oS, oI z1, oI z2, oI z4, oI z6, oI z8, oI z10, oI z11, oI z12, oI z13, oI z14, .val (.int (p3 &&& (7 : Int32))), .val (.int ((own_iushr p3 (3 : Int32)) % z1)), oU, oU, oU, oU, oU, oU, oU] []))
     generalize hz20 : ((own_iushr p3 (3 : Int32)) % z1) = z20
     show oG (T9.setTop (mkF m 152 #[oI p0, oJ q1, oS, oI p2, oI p3, oI p4, oJ q5, oS, oI z1, oI z2, oI z4, oI z6, oI z8, oI z10, oI z11, oI z12, oI z13, oI z14, .val (.int (p3 &&& (7 : Int32))), oI z20, oU, oU, oU, oU, oU, oU, oU] []))
     have kj := hk16 T9 _ (own_mono X9 (by decide) (by decide)) N9 e9
     try subst hz20
     simpa only [if_neg hc15, if_neg hc17, if_neg hc18, if_neg hc19] using kj
theorem own_cpp (p : Int32 → Bool) (b : Int32) (L0 L1 : List Int32) (r : Int32) (hb : b = 0 ∨ b = 1) : own_cp p (own_psh b (0 : Int32) L0 r ++ own_psh b (1 : Int32) L1 r) = own_cp p (L0 ++ L1) + (if p r then 1 else 0) := by
  have e1 : own_cp p [r] = if p r then 1 else 0 := by rw [own_cpc]; rfl
  unfold own_psh
  rcases hb with rfl | rfl
  · rw [if_pos rfl, if_neg (by decide), own_cpa, own_cpa, own_cpa, e1]; omega
  · rw [if_neg (by decide), if_pos rfl, own_cpa, own_cpa, own_cpa, e1]; omega
theorem own_cpi (p : Int32 → Bool) (c : Prop) [Decidable c] (b : Int32) (L0 L1 : List Int32) (r : Int32) (hb : b = 0 ∨ b = 1) : own_cp p ((if c then own_psh b (0 : Int32) L0 r else L0) ++ (if c then own_psh b (1 : Int32) L1 r else L1)) = own_cp p (L0 ++ L1) + (if c then (if p r then 1 else 0) else 0) := by
  by_cases h : c
  · rw [if_pos h, if_pos h, if_pos h]; exact own_cpp p b L0 L1 r hb
  · rw [if_neg h, if_neg h, if_neg h]; rfl
theorem own_cf1 (c d : Prop) [Decidable c] [Decidable d] (q : Bool) (h : q = true ↔ d) : own_f25 (if c then (1 : Int32) else 0) (if d then (1 : Int32) else 0) = Int32.ofNat (if c then (if q then 1 else 0) else 0) := by
  unfold own_f25
  by_cases hc : c
  · by_cases hd : d
    · rw [if_pos hc, if_pos hd, if_pos hc, if_pos (h.mpr hd)]; rfl
    · rw [if_pos hc, if_neg hd, if_pos hc, if_neg (fun z => hd (h.mp z))]; rfl
  · rw [if_neg hc, if_neg hc]; rfl
theorem own_cf2 (c d : Prop) [Decidable c] [Decidable d] (q : Bool) (h : q = true ↔ ¬ d) : own_f25 (if c then (1 : Int32) else 0) (if d then (0 : Int32) else 1) = Int32.ofNat (if c then (if q then 1 else 0) else 0) := by
  have e : (if d then (0 : Int32) else 1) = if ¬ d then (1 : Int32) else 0 := by
    by_cases hd : d
    · rw [if_pos hd, if_neg (fun z => z hd)]
    · rw [if_neg hd, if_pos hd]
  rw [e]; exact own_cf1 c (¬ d) q h
theorem own_ineq {r v n : Int32} (hr : own_in r n) (hv : own_in v n) : (decide (r.toNatClampNeg = v.toNatClampNeg) = true ↔ r = v) ∧ (decide (r.toNatClampNeg < v.toNatClampNeg + 1) = true ↔ ¬ v < r) := by
  obtain ⟨a1, a2, a3⟩ := own_on hr.1
  obtain ⟨b1, b2, b3⟩ := own_on hv.1
  refine ⟨?_, ?_⟩
  · rw [decide_eq_true_eq]
    exact ⟨fun e => by rw [a1, b1, e], fun e => by rw [e]⟩
  · rw [decide_eq_true_eq, Int32.lt_iff_toInt_lt]; omega
theorem own_fin (M : List Int32) (j : Nat) (hl : M.length ≤ 4) : own_EEf M j = if Int32.ofNat (own_ct M j) = 0 then 0 else Int32.ofNat (own_bl M (j + 1)) := by
  unfold own_EEf
  have q : own_ct M j ≤ M.length := own_cpl _ _
  have e : Int32.ofNat (own_ct M j) = 0 ↔ own_ct M j = 0 := (own_ofl (a := own_ct M j) (b := 0) (by omega) (by omega)).2
  by_cases h : own_ct M j = 0
  · rw [if_pos h, if_pos (e.mpr h)]
  · rw [if_neg h, if_neg (fun z => h (e.mp z))]
theorem own_plain (p0 : Int32) (q1 : Int64) (p2 p3 p4 : Int32) (q5 : Int64) : own_f0 p0 q1 p2 p3 p4 q5 = 1 := by
  unfold own_f0
  extract_lets z1 z2 z4 z6 z8 z10 z11 z12 z13 z14 z22 z28 f33 f34 f39 f40 f45 f46 f51 f52 z55 z58 z61 z64 z67 z71 z73 z76
  have hn : own_nn z1 (own_f4 z1) := own_nn1 p0
  have h4 : own_in z4 z1 := own_rcv hn _ _
  have h6 : own_in z6 z1 := own_rcv hn _ _
  have h8 : own_in z8 z1 := own_rcv hn _ _
  have h10 : own_in z10 z1 := own_rcv hn _ _
  have hv : own_in z22 z1 := own_ii h4 (own_ii h6 (own_ii h8 (own_ii h10 (own_inr hn (own_us _ 3 3 (by decide) (by decide))))))
  have cM : ∀ p : Int32 → Bool, own_cp p (f51 ++ f52) = (if (0 : Int32) < z2 then (if p z4 then 1 else 0) else 0) + (if (1 : Int32) < z2 then (if p z6 then 1 else 0) else 0) + (if (2 : Int32) < z2 then (if p z8 then 1 else 0) else 0) + (if (3 : Int32) < z2 then (if p z10 then 1 else 0) else 0) := fun p => by
    have a1 := own_cpi p ((0 : Int32) < z2) z11 [] [] z4 (own_b01 _)
    have a2 := own_cpi p ((1 : Int32) < z2) z12 f33 f34 z6 (own_b01 _)
    have a3 := own_cpi p ((2 : Int32) < z2) z13 f39 f40 z8 (own_b01 _)
    have a4 := own_cpi p ((3 : Int32) < z2) z14 f45 f46 z10 (own_b01 _)
    have a0 : own_cp p ([] ++ []) = 0 := rfl
    rw [a0, Nat.zero_add] at a1
    rw [show own_cp p (f51 ++ f52) = _ from a4, show own_cp p (f45 ++ f46) = _ from a3, show own_cp p (f39 ++ f40) = _ from a2, show own_cp p (f33 ++ f34) = _ from a1]
  have hlen : (f51 ++ f52).length = (if (0 : Int32) < z2 then 1 else 0) + (if (1 : Int32) < z2 then 1 else 0) + (if (2 : Int32) < z2 then 1 else 0) + (if (3 : Int32) < z2 then 1 else 0) := by
    have q := cM (fun _ => true)
    rw [show own_cp (fun _ => true) (f51 ++ f52) = (f51 ++ f52).length from by unfold own_cp; rw [List.filter_eq_self.mpr (fun _ _ => rfl)]] at q
    exact q
  have hl : (f51 ++ f52).length ≤ 4 := by
    rw [hlen]
    have : ∀ c : Prop, [Decidable c] → (if c then 1 else 0 : Nat) ≤ 1 := fun c _ => by split <;> omega
    have w0 := this ((0 : Int32) < z2)
    have w1 := this ((1 : Int32) < z2)
    have w2 := this ((2 : Int32) < z2)
    have w3 := this ((3 : Int32) < z2)
    omega
  have e61 : z61 = Int32.ofNat (own_ct (f51 ++ f52) z22.toNatClampNeg) := by
    unfold own_ct; rw [cM, ← own_oad, ← own_oad, ← own_oad, ← own_cf1 _ _ _ (own_ineq h4 hv).1, ← own_cf1 _ _ _ (own_ineq h6 hv).1, ← own_cf1 _ _ _ (own_ineq h8 hv).1, ← own_cf1 _ _ _ (own_ineq h10 hv).1]
  have e67 : z67 = Int32.ofNat (own_bl (f51 ++ f52) (z22.toNatClampNeg + 1)) := by
    unfold own_bl; rw [cM, ← own_oad, ← own_oad, ← own_oad, ← own_cf2 _ _ _ (own_ineq h4 hv).2, ← own_cf2 _ _ _ (own_ineq h6 hv).2, ← own_cf2 _ _ _ (own_ineq h8 hv).2, ← own_cf2 _ _ _ (own_ineq h10 hv).2]
  have e71 : own_EEf (f51 ++ f52) z22.toNatClampNeg = z71 := by rw [own_fin _ _ hl, ← e61, ← e67]
  have edr : own_dr f51 f52 = if (0 : Int32) < z2 then (1 : Int32) else (0 : Int32) := by
    unfold own_dr
    by_cases hz : (0 : Int32) < z2
    · rw [if_pos hz, if_neg]
      intro q
      rw [q, if_pos hz] at hlen
      simp only [List.length_nil] at hlen
      omega
    · rw [if_neg hz, if_pos]
      apply List.length_eq_zero_iff.mp
      have k : ∀ a : Int32, (0 : Int32) < a → ¬ a < z2 := fun a ha q => hz (Int32.lt_trans ha q)
      rw [hlen, if_neg hz, if_neg (k 1 (by decide)), if_neg (k 2 (by decide)), if_neg (k 3 (by decide))]
  have e28 : z28 = 1 := rfl
  have e55 : z55 = 1 := by show z28 &&& (if own_dr f51 f52 = _ then (1 : Int32) else 0) = 1; rw [if_pos edr, e28]; decide
  have e73 : z73 = 1 := by show z55 &&& (if own_EEf (f51 ++ f52) z22.toNatClampNeg = z71 then (1 : Int32) else 0) = 1; rw [if_pos e71, e55]; decide
  show (z73 &&& (1 : Int32)) &&& (1 : Int32) = 1
  rw [e73]; decide

set_option maxRecDepth 65536 in
set_option maxHeartbeats 40000000 in
theorem comes_1 {Post : Tables → Env → Array Value → State → Outcome → State → Prop} (hpost : ∀ tb e args s v u, (limb_1_1.after args s (.returned v) u = true ∧ limb_1_2.after args s (.returned v) u = true ∧ True) → ReturnedEndW s (.returned v) u (Jvm.fieldLocs frame_1_writes args s ++ Jvm.arrayLocs frame_1_arrays args s ++ Jvm.staticLocs frame_1_statics s) 48 13760 → Post tb e args s (.returned v) u) :
    ArmFor flags0 classFile x code maxLocals ret World_1 tables_1 room_1 Calls_1 rest_1 Pre_1 Post := by
  intro l hfl _ _ p e ha hc hk s m args below hf hA hF happ hP
  obtain ⟨hcalls, hrest, hpre⟩ := hP
  obtain ⟨-, -, -, hnamed, -, -, -, hat⟩ := (Spec.applies_iff hf).mp happ
  obtain ⟨hg, hn⟩ := and_e (Cond.before_iff.mp (show (Jvm.Cond.and given_1 narrow_1).before args s = true from hpre))
  obtain ⟨g1, g2⟩ := and_e hg
  obtain ⟨g3, g4⟩ := and_e g2
  obtain ⟨g5, g6⟩ := and_e g4
  obtain ⟨g7, g8⟩ := and_e g6
  obtain ⟨g9, g10⟩ := and_e g8
  obtain ⟨g11, g12⟩ := and_e g10
  obtain ⟨w0, w1, w2, w3, w4, w5, rfl⟩ : ∃ w0 w1 w2 w3 w4 w5 : Value, args = #[w0, w1, w2, w3, w4, w5] := by
    have hs : args.size = 6 := by simpa [Cond.value, given_1] using g1
    obtain ⟨L⟩ := args
    match L, hs with
    | [w0, w1, w2, w3, w4, w5], _ => exact ⟨w0, w1, w2, w3, w4, w5, rfl⟩
  have hw := fun d (hd : d ∈ tables_1) => atoms_spec (ws := Jvm.Cond.code x code maxLocals ret :: tables_1) hat d (List.mem_cons_of_mem _ hd)
  have hfit : Fit s := fun {y c} hc i hi => by
    obtain ⟨ha, rfl⟩ := Array.getElem?_eq_some_iff.mp hc
    have q := List.all_eq_true.mp ((Array.all_eq_true_iff_forall_mem.mp hF) _ (Array.getElem_mem ha)) i (List.mem_range.mpr hi)
    simpa [Array.getElem?_eq_getElem hi] using q
  obtain ⟨i0, ei0⟩ := is_v g3
  obtain rfl : w0 = (.int i0) := Option.some.inj ei0
  obtain ⟨i1, ei1⟩ := isL_v g5
  obtain rfl : w1 = (.long i1) := Option.some.inj ei1
  obtain ⟨i2, ei2⟩ := is_v g7
  obtain rfl : w2 = (.int i2) := Option.some.inj ei2
  obtain ⟨i3, ei3⟩ := is_v g9
  obtain rfl : w3 = (.int i3) := Option.some.inj ei3
  obtain ⟨i4, ei4⟩ := is_v g11
  obtain rfl : w4 = (.int i4) := Option.some.inj ei4
  obtain ⟨i5, ei5⟩ := isL_v g12
  obtain rfl : w5 = (.long i5) := Option.some.inj ei5
  obtain ⟨n, o, h1, h2, h3, _, L, rfl, ⟨rfl, N, hrest'⟩, -, hq⟩ := rm0 l s _ hw tables_1 i0 i1 i2 i3 i4 i5 s.heap s.heap.size (Nat.le_refl _) p e ha hc hk s m _ below hf ((Spec.applies_iff_loose hf).mp happ).1 ⟨rfl, State.Warmed39.refl s, rfl⟩ trivial
  refine ⟨n, _, h1, h2, h3, hpost _ _ _ _ _ _ ⟨Cond.after_iff.mpr rfl, Cond.after_iff.mpr (eq_i res_at (Term.int_eval (1)) (congrArg Value.int (own_plain i0 i1 i2 i3 i4 i5))), trivial⟩ ⟨hq.1, hq.2.1, hq.2.2.1, (hq.2.2.2.sift fun y hy => Or.inr (N y hy)).mono (by decide) (by decide)⟩⟩
theorem main_1_1 : Claimed_1_1 := comes_1 fun _ _ _ _ _ _ h hF => ⟨h.1, hF⟩
theorem main_1_2 : Claimed_1_2 := comes_1 fun _ _ _ _ _ _ h hF => ⟨h.2.1, hF⟩
end Jvm.Pilot.@@N@@
namespace Jvm.Pilot.@@N@@
open Jvm Jvm.ClassFile Sem Op Lib Jvm.Free Jvm.Stand Jvm.Pilot.@@N@@.Jvm.D
/-! MADE BY PROGRAM (witnessworld.py) out of the Statement's table words and the real class files: 29 classes; the members and pool entries that the words name. The judged class is class 1, her method 3. -/
namespace start1
open Jvm.ClassFile
def u (s : String) : CpInfo := .utf8 (stringToUtf16 s)
/-- a pool by its gaps: so many unusable entries, then the entry; so many at the end -/
def gap : Nat → List CpInfo → List CpInfo
  | 0, r => r
  | n + 1, r => .unusable :: gap n r
def poolList (es : List (Nat × CpInfo)) (last : Nat) : List CpInfo := es.foldr (fun e r => gap e.1 (e.2 :: r)) (gap last [])
def pool (es : List (Nat × CpInfo)) (last : Nat) : Array CpInfo := ⟨poolList es last⟩
def fileOf (pool : Array CpInfo) (this : Nat) (attrs : Array Attribute := #[]) (ms : Array MethodInfo := #[]) (fl : Nat := 33) (sup : Nat := 0) (ifs : Array Nat := #[]) (fds : Array FieldInfo := #[]) : ClassFile where
  minorVersion := 0
  majorVersion := 65
  constantPool := pool
  accessFlags := fl
  thisClass := this
  superClass := sup
  interfaces := ifs
  fields := fds
  methods := ms
  attributes := attrs
def plain (name : String) (sup : Option ClassId) : Class where
  name := name
  kind := .ordinary
  loader := none
  accessFlags := 33
  super := sup
  interfaces := #[]
  cf := none
  fields := #[]
  methods := #[]
  instanceTypes := #[]
  staticTypes := #[]
  resolved := #[]
  callSites := []
  init := .initialized
  statics := none
  mirror := none

def pool0 : Array CpInfo := pool [(5, u "<init>"), (0, u "()V"), (1, .class_ 10), (1, u "java/lang/Object")] 113

def k0c0 : Code := { maxStack := 0, maxLocals := 1, code := object_method_1_code, exceptionTable := #[], attributes := #[] }
def k0m0 : Method := { name := "<init>", desc := "()V", sig := { parameters := [], returnType := none }, accessFlags := 1, code := some k0c0 }
/-- java/lang/Object -/
def k0 : Class := { plain "java/lang/Object" none with
  accessFlags := 33
  interfaces := #[]
  cf := some (fileOf pool0 8 #[] #[{ accessFlags := 1, nameIndex := 5, descriptorIndex := 6, attributes := #[] }] 33 0 #[] #[])
  fields := #[]
  methods := #[k0m0]
  instanceTypes := #[]
  staticTypes := #[]
  resolved := Array.replicate 124 none
  statics := none }

def pool1 : Array CpInfo := pool [(2, .class_ 4), (1, u "java/lang/Object"), (0, u "<init>"), (0, u "()V"), (0, .long 65535), (1, .integer 2147483647), (0, .methodref 11 12), (0, .class_ 13), (0, .nameAndType 14 15), (0, u "com/example/lockstep/lockstep/engine/AddressedMessagesEndPinLaw"), (0, u "recv"), (0, u "(JII)I"), (0, .class_ 17), (0, u "com/example/lockstep/lockstep/engine/AddressedMessages"), (0, .string 19), (0, u "vertices"), (0, .methodref 16 21), (0, .nameAndType 5 22), (0, u "(IILjava/lang/String;)V"), (0, .methodref 16 24), (0, .nameAndType 25 26), (0, u "end"), (0, u "(I)I"), (0, .methodref 16 28), (0, .nameAndType 29 30), (0, u "send"), (0, u "(IIIJ)V"), (0, .long 2), (1, .long 3), (1, .methodref 16 36), (0, .nameAndType 37 38), (0, u "deliver"), (0, u "(I)Z"), (0, .methodref 11 40), (0, .nameAndType 41 42), (0, u "countIf"), (0, u "(ZZ)I"), (3, u "law"), (0, u "(IJIIIJ)Z")] 2

def k1m0 : Method := { name := "<init>", desc := "()V", sig := { parameters := [], returnType := none }, accessFlags := 2, code := none }
def k1c1 : Code := { maxStack := 4, maxLocals := 4, code := method_2_code, exceptionTable := #[], attributes := #[] }
def k1m1 : Method := { name := "recv", desc := "(JII)I", sig := { parameters := [.long, .int, .int], returnType := some .int }, accessFlags := 10, code := some k1c1 }
def k1c2 : Code := { maxStack := 1, maxLocals := 2, code := method_3_code, exceptionTable := #[], attributes := #[] }
def k1m2 : Method := { name := "countIf", desc := "(ZZ)I", sig := { parameters := [.boolean, .boolean], returnType := some .int }, accessFlags := 10, code := some k1c2 }
def k1c3 : Code := { maxStack := 8, maxLocals := 27, code := code, exceptionTable := #[], attributes := #[] }
def k1m3 : Method := { name := "law", desc := "(IJIIIJ)Z", sig := { parameters := [.int, .long, .int, .int, .int, .long], returnType := some .boolean }, accessFlags := 9, code := some k1c3 }
/-- com/example/lockstep/lockstep/engine/AddressedMessagesEndPinLaw -/
def k1 : Class := { plain "com/example/lockstep/lockstep/engine/AddressedMessagesEndPinLaw" (some 0) with
  accessFlags := 49
  interfaces := #[]
  cf := some (fileOf pool1 11 #[] #[{ accessFlags := 2, nameIndex := 5, descriptorIndex := 6, attributes := #[] }, { accessFlags := 10, nameIndex := 14, descriptorIndex := 15, attributes := #[] }, { accessFlags := 10, nameIndex := 41, descriptorIndex := 42, attributes := #[] }, { accessFlags := 9, nameIndex := 46, descriptorIndex := 47, attributes := #[] }] 49 2 #[] #[])
  fields := #[]
  methods := #[k1m0, k1m1, k1m2, k1m3]
  instanceTypes := #[]
  staticTypes := #[]
  resolved := Array.replicate 50 none
  statics := none }

def pool2 : Array CpInfo := pool [(3, .methodref 4 5), (0, .class_ 6), (0, .nameAndType 7 8), (0, u "java/lang/Object"), (0, u "<init>"), (0, u "()V"), (0, .fieldref 10 11), (0, .class_ 12), (0, .nameAndType 13 14), (0, u "com/example/lockstep/lockstep/engine/AddressedMessages"), (0, u "receivers"), (0, u "I"), (0, .fieldref 10 16), (0, .nameAndType 17 18), (0, u "senderKind"), (0, u "Ljava/lang/String;"), (0, .class_ 20), (0, u "com/example/lockstep/lockstep/engine/AddressedMessages$Outbox"), (0, .fieldref 10 22), (0, .nameAndType 23 24), (0, u "outboxes"), (0, u "[Lcom/example/lockstep/lockstep/engine/AddressedMessages$Outbox;"), (0, .class_ 26), (0, u "com/example/lockstep/lockstep/engine/VertexSet"), (0, .methodref 28 29), (0, .class_ 30), (0, .nameAndType 31 32), (0, u "com/example/lockstep/lockstep/engine/Engine"), (0, u "blockCount"), (0, u "(I)I"), (0, .methodref 25 34), (0, .nameAndType 7 35), (0, u "(I)V"), (0, .fieldref 10 37), (0, .nameAndType 38 39), (0, u "recipients"), (0, u "Lcom/example/lockstep/lockstep/engine/VertexSet;"), (0, .methodref 19 41), (0, .nameAndType 7 42), (0, u "(Lcom/example/lockstep/lockstep/engine/AddressedMessages;)V"), (0, .methodref 19 44), (0, .nameAndType 45 46), (0, u "add"), (0, u "(IIJ)V"), (0, .fieldref 10 48), (0, .nameAndType 49 50), (0, u "first"), (0, u "[I"), (0, .fieldref 10 52), (0, .nameAndType 53 50), (0, u "end"), (0, .fieldref 10 55), (0, .nameAndType 56 14), (0, u "delivered"), (0, .fieldref 10 58), (0, .nameAndType 59 50), (0, u "senders"), (0, .fieldref 10 61), (0, .nameAndType 62 63), (0, u "messages"), (0, u "[J"), (0, .methodref 25 65), (0, .nameAndType 31 66), (0, u "()I"), (0, .methodref 25 68), (0, .nameAndType 69 32), (0, u "block"), (0, .methodref 28 71), (0, .nameAndType 72 73), (0, u "blockEnd"), (0, u "(II)I"), (0, .methodref 75 76), (0, .class_ 77), (0, .nameAndType 78 79), (0, u "java/util/Arrays"), (0, u "fill"), (0, u "([IIII)V"), (0, .methodref 25 81), (0, .nameAndType 82 8), (0, u "clear"), (0, .fieldref 19 84), (0, .nameAndType 85 14), (0, u "size"), (0, .long 2147483639), (10, .fieldref 19 98), (0, .nameAndType 13 50), (0, .methodref 25 100), (0, .nameAndType 45 35), (0, .methodref 25 102), (0, .nameAndType 103 8), (0, u "sort"), (0, .methodref 25 105), (0, .nameAndType 106 73), (0, u "next"), (0, .fieldref 19 58), (0, .fieldref 19 61), (0, u "MAX_MESSAGES"), (2, u "(IILjava/lang/String;)V"), (2, u "send"), (0, u "(IIIJ)V"), (5, u "deliver"), (0, u "(I)Z")] 20

def k2c0 : Code := { maxStack := 4, maxLocals := 4, code := prog_18_method_1_code, exceptionTable := #[], attributes := #[] }
def k2m0 : Method := { name := "<init>", desc := "(IILjava/lang/String;)V", sig := { parameters := [.int, .int, (.object "java/lang/String")], returnType := none }, accessFlags := 0, code := some k2c0 }
def k2c1 : Code := { maxStack := 5, maxLocals := 7, code := prog_18_method_2_code, exceptionTable := #[], attributes := #[] }
def k2m1 : Method := { name := "send", desc := "(IIIJ)V", sig := { parameters := [.int, .int, .int, .long], returnType := none }, accessFlags := 0, code := some k2c1 }
def k2c2 : Code := { maxStack := 2, maxLocals := 2, code := prog_18_method_4_code, exceptionTable := #[], attributes := #[] }
def k2m2 : Method := { name := "end", desc := "(I)I", sig := { parameters := [.int], returnType := some .int }, accessFlags := 0, code := some k2c2 }
def k2c3 : Code := { maxStack := 6, maxLocals := 11, code := prog_18_method_9_code, exceptionTable := #[], attributes := #[] }
def k2m3 : Method := { name := "deliver", desc := "(I)Z", sig := { parameters := [.int], returnType := some .boolean }, accessFlags := 0, code := some k2c3 }
/-- com/example/lockstep/lockstep/engine/AddressedMessages -/
def k2 : Class := { plain "com/example/lockstep/lockstep/engine/AddressedMessages" (some 0) with
  accessFlags := 48
  interfaces := #[]
  cf := some (fileOf pool2 10 #[.nestMembers #[19]] #[{ accessFlags := 0, nameIndex := 7, descriptorIndex := 112, attributes := #[] }, { accessFlags := 0, nameIndex := 115, descriptorIndex := 116, attributes := #[] }, { accessFlags := 0, nameIndex := 53, descriptorIndex := 32, attributes := #[] }, { accessFlags := 0, nameIndex := 122, descriptorIndex := 123, attributes := #[] }] 48 4 #[] #[{ accessFlags := 26, nameIndex := 109, descriptorIndex := 14, attributes := #[] }, { accessFlags := 18, nameIndex := 13, descriptorIndex := 14, attributes := #[] }, { accessFlags := 18, nameIndex := 17, descriptorIndex := 18, attributes := #[] }, { accessFlags := 18, nameIndex := 23, descriptorIndex := 24, attributes := #[] }, { accessFlags := 2, nameIndex := 49, descriptorIndex := 50, attributes := #[] }, { accessFlags := 2, nameIndex := 53, descriptorIndex := 50, attributes := #[] }, { accessFlags := 2, nameIndex := 59, descriptorIndex := 50, attributes := #[] }, { accessFlags := 2, nameIndex := 62, descriptorIndex := 63, attributes := #[] }, { accessFlags := 18, nameIndex := 38, descriptorIndex := 39, attributes := #[] }, { accessFlags := 2, nameIndex := 56, descriptorIndex := 14, attributes := #[] }])
  fields := #[{ name := "MAX_MESSAGES", type := .int, accessFlags := 26, slot := 0, constantValue := 0 }, { name := "receivers", type := .int, accessFlags := 18, slot := 0, constantValue := 0 }, { name := "senderKind", type := (.object "java/lang/String"), accessFlags := 18, slot := 1, constantValue := 0 }, { name := "outboxes", type := (.array (.object "com/example/lockstep/lockstep/engine/AddressedMessages$Outbox")), accessFlags := 18, slot := 2, constantValue := 0 }, { name := "first", type := (.array .int), accessFlags := 2, slot := 3, constantValue := 0 }, { name := "end", type := (.array .int), accessFlags := 2, slot := 4, constantValue := 0 }, { name := "senders", type := (.array .int), accessFlags := 2, slot := 5, constantValue := 0 }, { name := "messages", type := (.array .long), accessFlags := 2, slot := 6, constantValue := 0 }, { name := "recipients", type := (.object "com/example/lockstep/lockstep/engine/VertexSet"), accessFlags := 18, slot := 7, constantValue := 0 }, { name := "delivered", type := .int, accessFlags := 2, slot := 8, constantValue := 0 }]
  methods := #[k2m0, k2m1, k2m2, k2m3]
  instanceTypes := #[.int, (.object "java/lang/String"), (.array (.object "com/example/lockstep/lockstep/engine/AddressedMessages$Outbox")), (.array .int), (.array .int), (.array .int), (.array .long), (.object "com/example/lockstep/lockstep/engine/VertexSet"), .int]
  staticTypes := #[.int]
  resolved := ((((((Array.replicate 144 none).set! 19 (some (.cls 9))).set! 40 (some (.method ⟨9, 0⟩))).set! 83 (some (.field 9 3))).set! 97 (some (.field 9 1))).set! 107 (some (.field 9 0))).set! 108 (some (.field 9 2))
  statics := none }

def pool3 : Array CpInfo := pool [(1, .class_ 2), (0, u "java/io/Serializable"), (0, .class_ 4), (0, u "java/lang/Object")] 2

/-- java/io/Serializable -/
def k3 : Class := { plain "java/io/Serializable" (some 0) with
  accessFlags := 1537
  interfaces := #[]
  cf := some (fileOf pool3 1 #[] #[] 1537 3 #[] #[])
  fields := #[]
  methods := #[]
  instanceTypes := #[]
  staticTypes := #[]
  resolved := Array.replicate 7 none
  statics := none }

def pool4 : Array CpInfo := pool [(1, .class_ 2), (0, u "java/lang/Comparable"), (0, .class_ 4), (0, u "java/lang/Object")] 7

/-- java/lang/Comparable -/
def k4 : Class := { plain "java/lang/Comparable" (some 0) with
  accessFlags := 1537
  interfaces := #[]
  cf := some (fileOf pool4 1 #[] #[] 1537 3 #[] #[])
  fields := #[]
  methods := #[]
  instanceTypes := #[]
  staticTypes := #[]
  resolved := Array.replicate 12 none
  statics := none }

def pool5 : Array CpInfo := pool [(2, .class_ 4), (1, u "java/lang/CharSequence"), (42, .class_ 48), (0, u "java/lang/CharSequence$1CodePointIterator"), (10, .class_ 60), (0, u "java/lang/CharSequence$1CharIterator"), (5, .class_ 67), (0, u "java/lang/Object")] 63

/-- java/lang/CharSequence -/
def k5 : Class := { plain "java/lang/CharSequence" (some 0) with
  accessFlags := 1537
  interfaces := #[]
  cf := some (fileOf pool5 2 #[.nestMembers #[47, 59]] #[] 1537 66 #[] #[])
  fields := #[]
  methods := #[]
  instanceTypes := #[]
  staticTypes := #[]
  resolved := Array.replicate 131 none
  statics := none }

def pool6 : Array CpInfo := pool [(1, .class_ 2), (0, u "java/lang/constant/Constable"), (0, .class_ 4), (0, u "java/lang/Object")] 6

/-- java/lang/constant/Constable -/
def k6 : Class := { plain "java/lang/constant/Constable" (some 0) with
  accessFlags := 1537
  interfaces := #[]
  cf := some (fileOf pool6 1 #[] #[] 1537 3 #[] #[])
  fields := #[]
  methods := #[]
  instanceTypes := #[]
  staticTypes := #[]
  resolved := Array.replicate 11 none
  statics := none }

def pool7 : Array CpInfo := pool [(1, .class_ 2), (0, u "java/lang/constant/ConstantDesc"), (0, .class_ 4), (0, u "java/lang/Object")] 32

/-- java/lang/constant/ConstantDesc -/
def k7 : Class := { plain "java/lang/constant/ConstantDesc" (some 0) with
  accessFlags := 1537
  interfaces := #[]
  cf := some (fileOf pool7 1 #[] #[] 1537 3 #[] #[])
  fields := #[]
  methods := #[]
  instanceTypes := #[]
  staticTypes := #[]
  resolved := Array.replicate 37 none
  statics := none }

def pool8 : Array CpInfo := pool [(2, .class_ 4), (1, u "java/lang/Object"), (0, u "<init>"), (0, u "()V"), (3, .class_ 12), (1, u "java/lang/String"), (0, u "value"), (0, u "[B"), (2, u "coder"), (0, u "B"), (2, u "hash"), (0, u "I"), (2, u "hashIsZero"), (0, u "Z"), (13, u "COMPACT_STRINGS"), (534, .class_ 576), (0, u "java/lang/CharSequence"), (22, u "CASE_INSENSITIVE_ORDER"), (0, u "Ljava/util/Comparator;"), (500, u "serialPersistentFields"), (0, u "[Ljava/io/ObjectStreamField;"), (0, .class_ 1104), (0, u "java/lang/String$CaseInsensitiveComparator"), (1, .class_ 1107), (0, u "java/io/Serializable"), (0, .class_ 1109), (0, u "java/lang/Comparable"), (0, .class_ 1111), (0, u "java/lang/constant/Constable"), (0, .class_ 1113), (0, u "java/lang/constant/ConstantDesc"), (2, u "serialVersionUID"), (0, u "J"), (3, u "REPL"), (0, u "C"), (2, u "LATIN1"), (1, u "UTF16")] 323

def k8m0 : Method := { name := "<init>", desc := "()V", sig := { parameters := [], returnType := none }, accessFlags := 1, code := none }
/-- java/lang/String -/
def k8 : Class := { plain "java/lang/String" (some 0) with
  accessFlags := 49
  interfaces := #[3, 4, 5, 6, 7]
  cf := some (fileOf pool8 10 #[.nestMembers #[1103]] #[{ accessFlags := 1, nameIndex := 5, descriptorIndex := 6, attributes := #[] }] 49 2 #[1106, 1108, 575, 1110, 1112] #[{ accessFlags := 18, nameIndex := 13, descriptorIndex := 14, attributes := #[] }, { accessFlags := 18, nameIndex := 17, descriptorIndex := 18, attributes := #[] }, { accessFlags := 2, nameIndex := 21, descriptorIndex := 22, attributes := #[] }, { accessFlags := 2, nameIndex := 25, descriptorIndex := 26, attributes := #[] }, { accessFlags := 26, nameIndex := 1116, descriptorIndex := 1117, attributes := #[] }, { accessFlags := 24, nameIndex := 40, descriptorIndex := 26, attributes := #[] }, { accessFlags := 26, nameIndex := 1101, descriptorIndex := 1102, attributes := #[] }, { accessFlags := 26, nameIndex := 1121, descriptorIndex := 1122, attributes := #[] }, { accessFlags := 25, nameIndex := 599, descriptorIndex := 600, attributes := #[] }, { accessFlags := 24, nameIndex := 1125, descriptorIndex := 18, attributes := #[] }, { accessFlags := 24, nameIndex := 1127, descriptorIndex := 18, attributes := #[] }])
  fields := #[{ name := "value", type := (.array .byte), accessFlags := 18, slot := 0, constantValue := 0 }, { name := "coder", type := .byte, accessFlags := 18, slot := 1, constantValue := 0 }, { name := "hash", type := .int, accessFlags := 2, slot := 2, constantValue := 0 }, { name := "hashIsZero", type := .boolean, accessFlags := 2, slot := 3, constantValue := 0 }, { name := "serialVersionUID", type := .long, accessFlags := 26, slot := 0, constantValue := 0 }, { name := "COMPACT_STRINGS", type := .boolean, accessFlags := 24, slot := 1, constantValue := 0 }, { name := "serialPersistentFields", type := (.array (.object "java/io/ObjectStreamField")), accessFlags := 26, slot := 2, constantValue := 0 }, { name := "REPL", type := .char, accessFlags := 26, slot := 3, constantValue := 0 }, { name := "CASE_INSENSITIVE_ORDER", type := (.object "java/util/Comparator"), accessFlags := 25, slot := 4, constantValue := 0 }, { name := "LATIN1", type := .byte, accessFlags := 24, slot := 5, constantValue := 0 }, { name := "UTF16", type := .byte, accessFlags := 24, slot := 6, constantValue := 0 }]
  methods := #[k8m0]
  instanceTypes := #[(.array .byte), .byte, .int, .boolean]
  staticTypes := #[.long, .boolean, (.array (.object "java/io/ObjectStreamField")), .char, (.object "java/util/Comparator"), .byte, .byte]
  resolved := Array.replicate 1451 none
  statics := none }

def pool9 : Array CpInfo := pool [(1, .class_ 2), (0, u "com/example/lockstep/lockstep/engine/AddressedMessages"), (0, .fieldref 4 5), (0, .class_ 6), (0, .nameAndType 7 8), (0, u "com/example/lockstep/lockstep/engine/AddressedMessages$Outbox"), (0, u "this$0"), (0, u "Lcom/example/lockstep/lockstep/engine/AddressedMessages;"), (0, .methodref 10 11), (0, .class_ 12), (0, .nameAndType 13 14), (0, u "java/lang/Object"), (0, u "<init>"), (0, u "()V"), (0, .fieldref 4 16), (0, .nameAndType 17 18), (0, u "senders"), (0, u "[I"), (0, .fieldref 4 20), (0, .nameAndType 21 18), (0, u "receivers"), (0, .fieldref 4 23), (0, .nameAndType 24 25), (0, u "messages"), (0, u "[J"), (0, .fieldref 4 27), (0, .nameAndType 28 29), (0, u "size"), (0, u "I"), (0, .integer 2147483639), (13, .long 2), (1, .long 2147483639), (1, .methodref 49 50), (0, .class_ 51), (0, .nameAndType 52 53), (0, u "java/lang/Math"), (0, u "min"), (0, u "(JJ)J"), (9, u "(Lcom/example/lockstep/lockstep/engine/AddressedMessages;)V"), (3, u "add"), (0, u "(IIJ)V")] 20

def k9c0 : Code := { maxStack := 2, maxLocals := 2, code := prog_19_method_1_code, exceptionTable := #[], attributes := #[] }
def k9m0 : Method := { name := "<init>", desc := "(Lcom/example/lockstep/lockstep/engine/AddressedMessages;)V", sig := { parameters := [(.object "com/example/lockstep/lockstep/engine/AddressedMessages")], returnType := none }, accessFlags := 2, code := some k9c0 }
def k9c1 : Code := { maxStack := 4, maxLocals := 6, code := prog_19_method_2_code, exceptionTable := #[], attributes := #[] }
def k9m1 : Method := { name := "add", desc := "(IIJ)V", sig := { parameters := [.int, .int, .long], returnType := none }, accessFlags := 0, code := some k9c1 }
/-- com/example/lockstep/lockstep/engine/AddressedMessages$Outbox -/
def k9 : Class := { plain "com/example/lockstep/lockstep/engine/AddressedMessages$Outbox" (some 0) with
  accessFlags := 48
  interfaces := #[]
  cf := some (fileOf pool9 4 #[.nestHost 1] #[{ accessFlags := 2, nameIndex := 13, descriptorIndex := 63, attributes := #[] }, { accessFlags := 0, nameIndex := 67, descriptorIndex := 68, attributes := #[] }] 48 10 #[] #[{ accessFlags := 2, nameIndex := 17, descriptorIndex := 18, attributes := #[] }, { accessFlags := 2, nameIndex := 21, descriptorIndex := 18, attributes := #[] }, { accessFlags := 2, nameIndex := 24, descriptorIndex := 25, attributes := #[] }, { accessFlags := 2, nameIndex := 28, descriptorIndex := 29, attributes := #[] }, { accessFlags := 4112, nameIndex := 7, descriptorIndex := 8, attributes := #[] }])
  fields := #[{ name := "senders", type := (.array .int), accessFlags := 2, slot := 0, constantValue := 0 }, { name := "receivers", type := (.array .int), accessFlags := 2, slot := 1, constantValue := 0 }, { name := "messages", type := (.array .long), accessFlags := 2, slot := 2, constantValue := 0 }, { name := "size", type := .int, accessFlags := 2, slot := 3, constantValue := 0 }, { name := "this$0", type := (.object "com/example/lockstep/lockstep/engine/AddressedMessages"), accessFlags := 4112, slot := 4, constantValue := 0 }]
  methods := #[k9m0, k9m1]
  instanceTypes := #[(.array .int), (.array .int), (.array .long), .int, (.object "com/example/lockstep/lockstep/engine/AddressedMessages")]
  staticTypes := #[]
  resolved := Array.replicate 89 none
  statics := none }

def pool10 : Array CpInfo := pool [(3, .class_ 4), (0, u "java/lang/Long"), (0, .methodref 6 7), (0, .class_ 8), (0, .nameAndType 9 10), (0, u "java/lang/Object"), (0, u "<init>"), (0, u "()V"), (0, .class_ 12), (0, u "com/example/lockstep/lockstep/engine/IndexList"), (0, .methodref 11 7), (0, .fieldref 15 16), (0, .class_ 17), (0, .nameAndType 18 19), (0, u "com/example/lockstep/lockstep/engine/VertexSet"), (0, u "blocks"), (0, u "Lcom/example/lockstep/lockstep/engine/IndexList;"), (0, .fieldref 15 21), (0, .nameAndType 22 23), (0, u "sorted"), (0, u "Z"), (0, .fieldref 15 25), (0, .nameAndType 26 27), (0, u "words"), (0, u "[J"), (0, .fieldref 15 29), (0, .nameAndType 30 31), (0, u "held"), (0, u "[Z"), (0, .methodref 15 33), (0, .nameAndType 34 35), (0, u "hold"), (0, u "(I)V"), (0, .methodref 11 37), (0, .nameAndType 38 39), (0, u "size"), (0, u "()I"), (0, .methodref 11 41), (0, .nameAndType 42 43), (0, u "get"), (0, u "(I)I"), (0, .methodref 11 45), (0, .nameAndType 46 35), (0, u "add"), (0, .methodref 11 48), (0, .nameAndType 49 10), (0, u "sort"), (7, .long 18446744073709551615), (1, .methodref 3 60), (0, .nameAndType 61 62), (0, u "numberOfTrailingZeros"), (0, u "(J)I"), (0, .methodref 64 65), (0, .class_ 66), (0, .nameAndType 67 68), (0, u "java/util/Arrays"), (0, u "fill"), (0, u "([JIIJ)V"), (0, .methodref 11 70), (0, .nameAndType 71 10), (0, u "clear"), (0, u "WORDS_PER_BLOCK"), (0, u "I"), (7, u "blockCount"), (0, u "block"), (0, u "next"), (0, u "(II)I")] 2

def k10c0 : Code := { maxStack := 3, maxLocals := 2, code := prog_49_method_1_code, exceptionTable := #[], attributes := #[] }
def k10m0 : Method := { name := "<init>", desc := "(I)V", sig := { parameters := [.int], returnType := none }, accessFlags := 0, code := some k10c0 }
def k10c1 : Code := { maxStack := 7, maxLocals := 2, code := prog_49_method_2_code, exceptionTable := #[], attributes := #[] }
def k10m1 : Method := { name := "add", desc := "(I)V", sig := { parameters := [.int], returnType := none }, accessFlags := 0, code := some k10c1 }
def k10c2 : Code := { maxStack := 5, maxLocals := 2, code := prog_49_method_4_code, exceptionTable := #[], attributes := #[] }
def k10m2 : Method := { name := "hold", desc := "(I)V", sig := { parameters := [.int], returnType := none }, accessFlags := 2, code := some k10c2 }
def k10c3 : Code := { maxStack := 2, maxLocals := 1, code := prog_49_method_5_code, exceptionTable := #[], attributes := #[] }
def k10m3 : Method := { name := "sort", desc := "()V", sig := { parameters := [], returnType := none }, accessFlags := 0, code := some k10c3 }
def k10c4 : Code := { maxStack := 1, maxLocals := 1, code := prog_49_method_6_code, exceptionTable := #[], attributes := #[] }
def k10m4 : Method := { name := "blockCount", desc := "()I", sig := { parameters := [], returnType := some .int }, accessFlags := 0, code := some k10c4 }
def k10c5 : Code := { maxStack := 3, maxLocals := 2, code := prog_49_method_7_code, exceptionTable := #[], attributes := #[] }
def k10m5 : Method := { name := "block", desc := "(I)I", sig := { parameters := [.int], returnType := some .int }, accessFlags := 0, code := some k10c5 }
def k10c6 : Code := { maxStack := 5, maxLocals := 7, code := prog_49_method_8_code, exceptionTable := #[], attributes := #[] }
def k10m6 : Method := { name := "next", desc := "(II)I", sig := { parameters := [.int, .int], returnType := some .int }, accessFlags := 0, code := some k10c6 }
def k10c7 : Code := { maxStack := 5, maxLocals := 3, code := prog_49_method_9_code, exceptionTable := #[], attributes := #[] }
def k10m7 : Method := { name := "clear", desc := "()V", sig := { parameters := [], returnType := none }, accessFlags := 0, code := some k10c7 }
/-- com/example/lockstep/lockstep/engine/VertexSet -/
def k10 : Class := { plain "com/example/lockstep/lockstep/engine/VertexSet" (some 0) with
  accessFlags := 48
  interfaces := #[]
  cf := some (fileOf pool10 15 #[] #[{ accessFlags := 0, nameIndex := 9, descriptorIndex := 35, attributes := #[] }, { accessFlags := 0, nameIndex := 46, descriptorIndex := 35, attributes := #[] }, { accessFlags := 2, nameIndex := 34, descriptorIndex := 35, attributes := #[] }, { accessFlags := 0, nameIndex := 49, descriptorIndex := 10, attributes := #[] }, { accessFlags := 0, nameIndex := 81, descriptorIndex := 39, attributes := #[] }, { accessFlags := 0, nameIndex := 82, descriptorIndex := 43, attributes := #[] }, { accessFlags := 0, nameIndex := 83, descriptorIndex := 84, attributes := #[] }, { accessFlags := 0, nameIndex := 71, descriptorIndex := 10, attributes := #[] }] 48 6 #[] #[{ accessFlags := 26, nameIndex := 72, descriptorIndex := 73, attributes := #[] }, { accessFlags := 18, nameIndex := 26, descriptorIndex := 27, attributes := #[] }, { accessFlags := 18, nameIndex := 30, descriptorIndex := 31, attributes := #[] }, { accessFlags := 18, nameIndex := 18, descriptorIndex := 19, attributes := #[] }, { accessFlags := 2, nameIndex := 22, descriptorIndex := 23, attributes := #[] }])
  fields := #[{ name := "WORDS_PER_BLOCK", type := .int, accessFlags := 26, slot := 0, constantValue := 0 }, { name := "words", type := (.array .long), accessFlags := 18, slot := 0, constantValue := 0 }, { name := "held", type := (.array .boolean), accessFlags := 18, slot := 1, constantValue := 0 }, { name := "blocks", type := (.object "com/example/lockstep/lockstep/engine/IndexList"), accessFlags := 18, slot := 2, constantValue := 0 }, { name := "sorted", type := .boolean, accessFlags := 2, slot := 3, constantValue := 0 }]
  methods := #[k10m0, k10m1, k10m2, k10m3, k10m4, k10m5, k10m6, k10m7]
  instanceTypes := #[(.array .long), (.array .boolean), (.object "com/example/lockstep/lockstep/engine/IndexList"), .boolean]
  staticTypes := #[.int]
  resolved := Array.replicate 87 none
  statics := none }

def pool11 : Array CpInfo := pool [(2, .class_ 4), (1, u "java/lang/Object"), (6, .class_ 13), (1, u "com/example/lockstep/lockstep/engine/Engine"), (0, u "master"), (0, u "Lcom/example/lockstep/lockstep/engine/Master;"), (8, u "graph"), (0, u "Lcom/example/lockstep/lockstep/graph/Graph;"), (2, u "program"), (0, u "Lcom/example/lockstep/lockstep/engine/VertexProgram;"), (46, u "aggregates"), (0, u "Ljava/util/List;"), (2, u "blockCount"), (0, u "(I)I"), (2, u "blocks"), (0, u "I"), (2, u "valueType"), (3, u "Lcom/example/lockstep/lockstep/graph/NumberType;"), (2, u "messageType"), (12, u "values"), (0, u "[J"), (2, u "halted"), (0, u "[Z"), (0, .class_ 115), (0, u "com/example/lockstep/lockstep/engine/Engine$Broadcasts"), (5, u "currentOut"), (0, u "Lcom/example/lockstep/lockstep/engine/Engine$Broadcasts;"), (2, u "previousOut"), (2, u "currentIn"), (2, u "previousIn"), (9, u "addressed"), (0, u "Lcom/example/lockstep/lockstep/engine/AddressedMessages;"), (7, u "frontier"), (0, u "Lcom/example/lockstep/lockstep/engine/VertexSet;"), (13, u "listingLimit"), (0, u "J"), (53, .class_ 221), (0, u "com/example/lockstep/lockstep/engine/Engine$Worker"), (20, u "superstep"), (16, u "visits"), (59, u "listedOnly"), (0, u "Z"), (46, u "blockEnd"), (0, u "(II)I"), (32, .long 1024), (1, .methodref 404 405), (0, .class_ 406), (0, .nameAndType 407 408), (0, u "java/lang/Math"), (0, u "min"), (0, u "(JJ)J"), (0, u "BLOCK_SIZE"), (2, u "LISTING_SHARE")] 35

def k11c0 : Code := { maxStack := 2, maxLocals := 1, code := prog_22_method_11_code, exceptionTable := #[], attributes := #[] }
def k11m0 : Method := { name := "blockCount", desc := "(I)I", sig := { parameters := [.int], returnType := some .int }, accessFlags := 8, code := some k11c0 }
def k11c1 : Code := { maxStack := 6, maxLocals := 2, code := prog_22_method_12_code, exceptionTable := #[], attributes := #[] }
def k11m1 : Method := { name := "blockEnd", desc := "(II)I", sig := { parameters := [.int, .int], returnType := some .int }, accessFlags := 8, code := some k11c1 }
/-- com/example/lockstep/lockstep/engine/Engine -/
def k11 : Class := { plain "com/example/lockstep/lockstep/engine/Engine" (some 0) with
  accessFlags := 49
  interfaces := #[]
  cf := some (fileOf pool11 11 #[.nestMembers #[220, 114]] #[{ accessFlags := 8, nameIndex := 80, descriptorIndex := 81, attributes := #[] }, { accessFlags := 8, nameIndex := 367, descriptorIndex := 368, attributes := #[] }] 49 2 #[] #[{ accessFlags := 24, nameIndex := 409, descriptorIndex := 85, attributes := #[] }, { accessFlags := 26, nameIndex := 412, descriptorIndex := 85, attributes := #[] }, { accessFlags := 16, nameIndex := 24, descriptorIndex := 25, attributes := #[] }, { accessFlags := 18, nameIndex := 28, descriptorIndex := 29, attributes := #[] }, { accessFlags := 18, nameIndex := 76, descriptorIndex := 77, attributes := #[] }, { accessFlags := 18, nameIndex := 14, descriptorIndex := 15, attributes := #[] }, { accessFlags := 18, nameIndex := 84, descriptorIndex := 85, attributes := #[] }, { accessFlags := 16, nameIndex := 88, descriptorIndex := 92, attributes := #[] }, { accessFlags := 16, nameIndex := 95, descriptorIndex := 92, attributes := #[] }, { accessFlags := 16, nameIndex := 108, descriptorIndex := 109, attributes := #[] }, { accessFlags := 16, nameIndex := 112, descriptorIndex := 113, attributes := #[] }, { accessFlags := 0, nameIndex := 121, descriptorIndex := 122, attributes := #[] }, { accessFlags := 0, nameIndex := 125, descriptorIndex := 122, attributes := #[] }, { accessFlags := 0, nameIndex := 128, descriptorIndex := 122, attributes := #[] }, { accessFlags := 0, nameIndex := 131, descriptorIndex := 122, attributes := #[] }, { accessFlags := 16, nameIndex := 141, descriptorIndex := 142, attributes := #[] }, { accessFlags := 18, nameIndex := 150, descriptorIndex := 151, attributes := #[] }, { accessFlags := 2, nameIndex := 319, descriptorIndex := 320, attributes := #[] }, { accessFlags := 18, nameIndex := 165, descriptorIndex := 166, attributes := #[] }, { accessFlags := 0, nameIndex := 242, descriptorIndex := 85, attributes := #[] }, { accessFlags := 2, nameIndex := 259, descriptorIndex := 166, attributes := #[] }])
  fields := #[{ name := "BLOCK_SIZE", type := .int, accessFlags := 24, slot := 0, constantValue := 0 }, { name := "LISTING_SHARE", type := .int, accessFlags := 26, slot := 1, constantValue := 0 }, { name := "graph", type := (.object "com/example/lockstep/lockstep/graph/Graph"), accessFlags := 16, slot := 0, constantValue := 0 }, { name := "program", type := (.object "com/example/lockstep/lockstep/engine/VertexProgram"), accessFlags := 18, slot := 1, constantValue := 0 }, { name := "aggregates", type := (.object "java/util/List"), accessFlags := 18, slot := 2, constantValue := 0 }, { name := "master", type := (.object "com/example/lockstep/lockstep/engine/Master"), accessFlags := 18, slot := 3, constantValue := 0 }, { name := "blocks", type := .int, accessFlags := 18, slot := 4, constantValue := 0 }, { name := "valueType", type := (.object "com/example/lockstep/lockstep/graph/NumberType"), accessFlags := 16, slot := 5, constantValue := 0 }, { name := "messageType", type := (.object "com/example/lockstep/lockstep/graph/NumberType"), accessFlags := 16, slot := 6, constantValue := 0 }, { name := "values", type := (.array .long), accessFlags := 16, slot := 7, constantValue := 0 }, { name := "halted", type := (.array .boolean), accessFlags := 16, slot := 8, constantValue := 0 }, { name := "currentOut", type := (.object "com/example/lockstep/lockstep/engine/Engine$Broadcasts"), accessFlags := 0, slot := 9, constantValue := 0 }, { name := "previousOut", type := (.object "com/example/lockstep/lockstep/engine/Engine$Broadcasts"), accessFlags := 0, slot := 10, constantValue := 0 }, { name := "currentIn", type := (.object "com/example/lockstep/lockstep/engine/Engine$Broadcasts"), accessFlags := 0, slot := 11, constantValue := 0 }, { name := "previousIn", type := (.object "com/example/lockstep/lockstep/engine/Engine$Broadcasts"), accessFlags := 0, slot := 12, constantValue := 0 }, { name := "addressed", type := (.object "com/example/lockstep/lockstep/engine/AddressedMessages"), accessFlags := 16, slot := 13, constantValue := 0 }, { name := "frontier", type := (.object "com/example/lockstep/lockstep/engine/VertexSet"), accessFlags := 18, slot := 14, constantValue := 0 }, { name := "listedOnly", type := .boolean, accessFlags := 2, slot := 15, constantValue := 0 }, { name := "listingLimit", type := .long, accessFlags := 18, slot := 16, constantValue := 0 }, { name := "superstep", type := .int, accessFlags := 0, slot := 17, constantValue := 0 }, { name := "visits", type := .long, accessFlags := 2, slot := 18, constantValue := 0 }]
  methods := #[k11m0, k11m1]
  instanceTypes := #[(.object "com/example/lockstep/lockstep/graph/Graph"), (.object "com/example/lockstep/lockstep/engine/VertexProgram"), (.object "java/util/List"), (.object "com/example/lockstep/lockstep/engine/Master"), .int, (.object "com/example/lockstep/lockstep/graph/NumberType"), (.object "com/example/lockstep/lockstep/graph/NumberType"), (.array .long), (.array .boolean), (.object "com/example/lockstep/lockstep/engine/Engine$Broadcasts"), (.object "com/example/lockstep/lockstep/engine/Engine$Broadcasts"), (.object "com/example/lockstep/lockstep/engine/Engine$Broadcasts"), (.object "com/example/lockstep/lockstep/engine/Engine$Broadcasts"), (.object "com/example/lockstep/lockstep/engine/AddressedMessages"), (.object "com/example/lockstep/lockstep/engine/VertexSet"), .boolean, .long, .int, .long]
  staticTypes := #[.int, .int]
  resolved := Array.replicate 448 none
  statics := none }

def pool12 : Array CpInfo := pool [(1, .methodref 2 3), (0, .class_ 4), (0, .nameAndType 5 6), (0, u "java/lang/Object"), (0, u "<init>"), (0, u "()V"), (0, .fieldref 8 9), (0, .class_ 10), (0, .nameAndType 11 12), (0, u "com/example/lockstep/lockstep/engine/IndexList"), (0, u "indices"), (0, u "[I"), (0, .fieldref 8 14), (0, .nameAndType 15 16), (0, u "size"), (0, u "I"), (0, .long 2), (3, .long 2147483639), (1, .methodref 24 25), (0, .class_ 26), (0, .nameAndType 27 28), (0, u "java/lang/Math"), (0, u "min"), (0, u "(JJ)J"), (1, .class_ 32), (1, u "java/util/Arrays"), (2, .methodref 30 36), (0, .nameAndType 37 38), (0, u "sort"), (0, u "([III)V"), (2, u "add"), (0, u "(I)V"), (1, u "()I"), (0, u "get"), (0, u "(I)I"), (2, u "clear")] 2

def k12c0 : Code := { maxStack := 2, maxLocals := 1, code := prog_26_method_1_code, exceptionTable := #[], attributes := #[] }
def k12m0 : Method := { name := "<init>", desc := "()V", sig := { parameters := [], returnType := none }, accessFlags := 0, code := some k12c0 }
def k12c1 : Code := { maxStack := 6, maxLocals := 2, code := prog_26_method_2_code, exceptionTable := #[], attributes := #[] }
def k12m1 : Method := { name := "add", desc := "(I)V", sig := { parameters := [.int], returnType := none }, accessFlags := 0, code := some k12c1 }
def k12c2 : Code := { maxStack := 1, maxLocals := 1, code := prog_26_method_3_code, exceptionTable := #[], attributes := #[] }
def k12m2 : Method := { name := "size", desc := "()I", sig := { parameters := [], returnType := some .int }, accessFlags := 0, code := some k12c2 }
def k12c3 : Code := { maxStack := 2, maxLocals := 2, code := prog_26_method_4_code, exceptionTable := #[], attributes := #[] }
def k12m3 : Method := { name := "get", desc := "(I)I", sig := { parameters := [.int], returnType := some .int }, accessFlags := 0, code := some k12c3 }
def k12c4 : Code := { maxStack := 3, maxLocals := 1, code := prog_26_method_5_code, exceptionTable := #[], attributes := #[] }
def k12m4 : Method := { name := "sort", desc := "()V", sig := { parameters := [], returnType := none }, accessFlags := 0, code := some k12c4 }
def k12c5 : Code := { maxStack := 2, maxLocals := 1, code := prog_26_method_7_code, exceptionTable := #[], attributes := #[] }
def k12m5 : Method := { name := "clear", desc := "()V", sig := { parameters := [], returnType := none }, accessFlags := 0, code := some k12c5 }
/-- com/example/lockstep/lockstep/engine/IndexList -/
def k12 : Class := { plain "com/example/lockstep/lockstep/engine/IndexList" (some 0) with
  accessFlags := 48
  interfaces := #[]
  cf := some (fileOf pool12 8 #[] #[{ accessFlags := 0, nameIndex := 5, descriptorIndex := 6, attributes := #[] }, { accessFlags := 0, nameIndex := 41, descriptorIndex := 42, attributes := #[] }, { accessFlags := 0, nameIndex := 15, descriptorIndex := 44, attributes := #[] }, { accessFlags := 0, nameIndex := 45, descriptorIndex := 46, attributes := #[] }, { accessFlags := 0, nameIndex := 37, descriptorIndex := 6, attributes := #[] }, { accessFlags := 0, nameIndex := 49, descriptorIndex := 6, attributes := #[] }] 48 2 #[] #[{ accessFlags := 2, nameIndex := 11, descriptorIndex := 12, attributes := #[] }, { accessFlags := 2, nameIndex := 15, descriptorIndex := 16, attributes := #[] }])
  fields := #[{ name := "indices", type := (.array .int), accessFlags := 2, slot := 0, constantValue := 0 }, { name := "size", type := .int, accessFlags := 2, slot := 1, constantValue := 0 }]
  methods := #[k12m0, k12m1, k12m2, k12m3, k12m4, k12m5]
  instanceTypes := #[(.array .int), .int]
  staticTypes := #[]
  resolved := Array.replicate 52 none
  statics := none }

def pool13 : Array CpInfo := pool [(2, .class_ 4), (1, u "java/lang/Object"), (0, u "<init>"), (0, u "()V"), (1, .class_ 10), (1, u "java/lang/Number"), (2, .class_ 14), (0, u "java/io/Serializable"), (0, u "serialVersionUID"), (0, u "J")] 20

def k13m0 : Method := { name := "<init>", desc := "()V", sig := { parameters := [], returnType := none }, accessFlags := 1, code := none }
/-- java/lang/Number -/
def k13 : Class := { plain "java/lang/Number" (some 0) with
  accessFlags := 1057
  interfaces := #[3]
  cf := some (fileOf pool13 8 #[] #[{ accessFlags := 1, nameIndex := 5, descriptorIndex := 6, attributes := #[] }] 1057 2 #[13] #[{ accessFlags := 26, nameIndex := 15, descriptorIndex := 16, attributes := #[] }])
  fields := #[{ name := "serialVersionUID", type := .long, accessFlags := 26, slot := 0, constantValue := 0 }]
  methods := #[k13m0]
  instanceTypes := #[]
  staticTypes := #[.long]
  resolved := Array.replicate 37 none
  statics := none }

def pool14 : Array CpInfo := pool [(1, .class_ 2), (0, u "java/lang/Long"), (15, .class_ 20), (1, u "java/lang/Integer"), (80, u "(J)I"), (133, .class_ 237), (1, u "java/lang/Long$LongCache"), (33, .class_ 272), (0, u "java/lang/Number"), (2, u "value"), (0, u "J"), (33, u "(I)I"), (0, .methodref 18 312), (0, .nameAndType 313 310), (0, u "numberOfTrailingZeros"), (47, u "TYPE"), (0, u "Ljava/lang/Class;"), (0, .class_ 364), (0, u "java/lang/Comparable"), (0, .class_ 366), (0, u "java/lang/constant/Constable"), (0, .class_ 368), (0, u "java/lang/constant/ConstantDesc"), (0, u "MIN_VALUE"), (1, u "MAX_VALUE"), (4, u "SIZE"), (0, u "I"), (1, u "BYTES"), (1, u "serialVersionUID")] 142

def k14c0 : Code := { maxStack := 4, maxLocals := 3, code := jdk_35_method_49_code, exceptionTable := #[], attributes := #[] }
def k14m0 : Method := { name := "numberOfTrailingZeros", desc := "(J)I", sig := { parameters := [.long], returnType := some .int }, accessFlags := 9, code := some k14c0 }
/-- java/lang/Long -/
def k14 : Class := { plain "java/lang/Long" (some 13) with
  accessFlags := 49
  interfaces := #[4, 6, 7]
  cf := some (fileOf pool14 1 #[.nestMembers #[235]] #[{ accessFlags := 9, nameIndex := 313, descriptorIndex := 101, attributes := #[] }] 49 271 #[363, 365, 367] #[{ accessFlags := 25, nameIndex := 369, descriptorIndex := 276, attributes := #[] }, { accessFlags := 25, nameIndex := 371, descriptorIndex := 276, attributes := #[] }, { accessFlags := 25, nameIndex := 361, descriptorIndex := 362, attributes := #[] }, { accessFlags := 18, nameIndex := 275, descriptorIndex := 276, attributes := #[] }, { accessFlags := 25, nameIndex := 376, descriptorIndex := 377, attributes := #[] }, { accessFlags := 25, nameIndex := 379, descriptorIndex := 377, attributes := #[] }, { accessFlags := 26, nameIndex := 381, descriptorIndex := 276, attributes := #[] }])
  fields := #[{ name := "MIN_VALUE", type := .long, accessFlags := 25, slot := 0, constantValue := 0 }, { name := "MAX_VALUE", type := .long, accessFlags := 25, slot := 1, constantValue := 0 }, { name := "TYPE", type := (.object "java/lang/Class"), accessFlags := 25, slot := 2, constantValue := 0 }, { name := "value", type := .long, accessFlags := 18, slot := 0, constantValue := 0 }, { name := "SIZE", type := .int, accessFlags := 25, slot := 3, constantValue := 0 }, { name := "BYTES", type := .int, accessFlags := 25, slot := 4, constantValue := 0 }, { name := "serialVersionUID", type := .long, accessFlags := 26, slot := 5, constantValue := 0 }]
  methods := #[k14m0]
  instanceTypes := #[.long]
  staticTypes := #[.long, .long, (.object "java/lang/Class"), .int, .int, .long]
  resolved := Array.replicate 524 none
  statics := none }

def pool15 : Array CpInfo := pool [(1, .class_ 2), (0, u "java/lang/Integer"), (16, u "digits"), (0, u "[C"), (33, u "(I)I"), (30, u "DigitOnes"), (0, u "[B"), (2, u "DigitTens"), (99, .class_ 190), (0, u "java/lang/Integer$IntegerCache"), (3, u "I"), (8, .class_ 204), (0, u "java/lang/Number"), (2, u "value"), (56, .integer 65536), (37, u "TYPE"), (0, u "Ljava/lang/Class;"), (0, .class_ 305), (0, u "java/lang/Comparable"), (0, .class_ 307), (0, u "java/lang/constant/Constable"), (0, .class_ 309), (0, u "java/lang/constant/ConstantDesc"), (0, u "MIN_VALUE"), (1, u "MAX_VALUE"), (3, u "SIZE"), (1, u "BYTES"), (1, u "serialVersionUID"), (0, u "J"), (84, u "numberOfTrailingZeros")] 46

def k15c0 : Code := { maxStack := 3, maxLocals := 2, code := jdk_33_method_48_code, exceptionTable := #[], attributes := #[] }
def k15m0 : Method := { name := "numberOfTrailingZeros", desc := "(I)I", sig := { parameters := [.int], returnType := some .int }, accessFlags := 9, code := some k15c0 }
/-- java/lang/Integer -/
def k15 : Class := { plain "java/lang/Integer" (some 13) with
  accessFlags := 49
  interfaces := #[4, 6, 7]
  cf := some (fileOf pool15 1 #[.nestMembers #[189]] #[{ accessFlags := 9, nameIndex := 406, descriptorIndex := 54, attributes := #[] }] 49 203 #[304, 306, 308] #[{ accessFlags := 25, nameIndex := 310, descriptorIndex := 194, attributes := #[] }, { accessFlags := 25, nameIndex := 312, descriptorIndex := 194, attributes := #[] }, { accessFlags := 25, nameIndex := 302, descriptorIndex := 303, attributes := #[] }, { accessFlags := 24, nameIndex := 19, descriptorIndex := 20, attributes := #[] }, { accessFlags := 24, nameIndex := 89, descriptorIndex := 86, attributes := #[] }, { accessFlags := 24, nameIndex := 85, descriptorIndex := 86, attributes := #[] }, { accessFlags := 18, nameIndex := 207, descriptorIndex := 194, attributes := #[] }, { accessFlags := 25, nameIndex := 316, descriptorIndex := 194, attributes := #[] }, { accessFlags := 25, nameIndex := 318, descriptorIndex := 194, attributes := #[] }, { accessFlags := 26, nameIndex := 320, descriptorIndex := 321, attributes := #[] }])
  fields := #[{ name := "MIN_VALUE", type := .int, accessFlags := 25, slot := 0, constantValue := 0 }, { name := "MAX_VALUE", type := .int, accessFlags := 25, slot := 1, constantValue := 0 }, { name := "TYPE", type := (.object "java/lang/Class"), accessFlags := 25, slot := 2, constantValue := 0 }, { name := "digits", type := (.array .char), accessFlags := 24, slot := 3, constantValue := 0 }, { name := "DigitTens", type := (.array .byte), accessFlags := 24, slot := 4, constantValue := 0 }, { name := "DigitOnes", type := (.array .byte), accessFlags := 24, slot := 5, constantValue := 0 }, { name := "value", type := .int, accessFlags := 18, slot := 0, constantValue := 0 }, { name := "SIZE", type := .int, accessFlags := 25, slot := 6, constantValue := 0 }, { name := "BYTES", type := .int, accessFlags := 25, slot := 7, constantValue := 0 }, { name := "serialVersionUID", type := .long, accessFlags := 26, slot := 8, constantValue := 0 }]
  methods := #[k15m0]
  instanceTypes := #[.int]
  staticTypes := #[.int, .int, (.object "java/lang/Class"), (.array .char), (.array .byte), (.array .byte), .int, .int, .long]
  resolved := Array.replicate 453 none
  statics := none }

def pool16 : Array CpInfo := pool [(1, .class_ 2), (0, u "java/lang/Math"), (1, .class_ 6), (1, u "java/lang/Object"), (0, u "<init>"), (0, u "()V"), (89, .class_ 100), (1, u "java/lang/Math$RandomNumberGeneratorHolder"), (20, u "(JJ)J"), (50, u "negativeZeroFloatBits"), (0, u "J"), (2, u "negativeZeroDoubleBits"), (24, u "min"), (43, u "$assertionsDisabled"), (0, u "Z"), (91, u "twoToTheDoubleScaleDown"), (0, u "D"), (4, u "twoToTheDoubleScaleUp"), (9, u "E"), (3, u "PI"), (2, u "TAU"), (2, u "DEGREES_TO_RADIANS"), (0, u "RADIANS_TO_DEGREES")] 94

def k16m0 : Method := { name := "<init>", desc := "()V", sig := { parameters := [], returnType := none }, accessFlags := 2, code := none }
def k16c1 : Code := { maxStack := 4, maxLocals := 4, code := jdk_29_method_70_code, exceptionTable := #[], attributes := #[] }
def k16m1 : Method := { name := "min", desc := "(JJ)J", sig := { parameters := [.long, .long], returnType := some .long }, accessFlags := 9, code := some k16c1 }
/-- java/lang/Math -/
def k16 : Class := { plain "java/lang/Math" (some 0) with
  accessFlags := 49
  interfaces := #[]
  cf := some (fileOf pool16 1 #[.nestMembers #[98]] #[{ accessFlags := 2, nameIndex := 7, descriptorIndex := 8, attributes := #[] }, { accessFlags := 9, nameIndex := 201, descriptorIndex := 121, attributes := #[] }] 49 4 #[] #[{ accessFlags := 25, nameIndex := 354, descriptorIndex := 339, attributes := #[] }, { accessFlags := 25, nameIndex := 358, descriptorIndex := 339, attributes := #[] }, { accessFlags := 25, nameIndex := 361, descriptorIndex := 339, attributes := #[] }, { accessFlags := 26, nameIndex := 364, descriptorIndex := 339, attributes := #[] }, { accessFlags := 26, nameIndex := 365, descriptorIndex := 339, attributes := #[] }, { accessFlags := 26, nameIndex := 172, descriptorIndex := 173, attributes := #[] }, { accessFlags := 26, nameIndex := 176, descriptorIndex := 173, attributes := #[] }, { accessFlags := 8, nameIndex := 344, descriptorIndex := 339, attributes := #[] }, { accessFlags := 8, nameIndex := 338, descriptorIndex := 339, attributes := #[] }, { accessFlags := 4120, nameIndex := 245, descriptorIndex := 246, attributes := #[] }])
  fields := #[{ name := "E", type := .double, accessFlags := 25, slot := 0, constantValue := 0 }, { name := "PI", type := .double, accessFlags := 25, slot := 1, constantValue := 0 }, { name := "TAU", type := .double, accessFlags := 25, slot := 2, constantValue := 0 }, { name := "DEGREES_TO_RADIANS", type := .double, accessFlags := 26, slot := 3, constantValue := 0 }, { name := "RADIANS_TO_DEGREES", type := .double, accessFlags := 26, slot := 4, constantValue := 0 }, { name := "negativeZeroFloatBits", type := .long, accessFlags := 26, slot := 5, constantValue := 0 }, { name := "negativeZeroDoubleBits", type := .long, accessFlags := 26, slot := 6, constantValue := 0 }, { name := "twoToTheDoubleScaleUp", type := .double, accessFlags := 8, slot := 7, constantValue := 0 }, { name := "twoToTheDoubleScaleDown", type := .double, accessFlags := 8, slot := 8, constantValue := 0 }, { name := "$assertionsDisabled", type := .boolean, accessFlags := 4120, slot := 9, constantValue := 0 }]
  methods := #[k16m0, k16m1]
  instanceTypes := #[]
  staticTypes := #[.double, .double, .double, .double, .double, .long, .long, .double, .double, .boolean]
  resolved := Array.replicate 460 none
  statics := none }

def pool17 : Array CpInfo := pool [(2, .class_ 4), (1, u "java/lang/Object"), (0, u "<init>"), (0, u "()V"), (0, .methodref 8 9), (0, .class_ 10), (0, .nameAndType 11 12), (0, u "java/util/DualPivotQuicksort"), (0, u "sort"), (0, u "([IIII)V"), (0, .methodref 14 15), (0, .class_ 16), (0, .nameAndType 17 18), (0, u "java/util/Arrays"), (0, u "rangeCheck"), (0, u "(III)V"), (55, .class_ 76), (1, u "java/util/Arrays$NaturalOrder"), (36, .class_ 115), (1, u "java/util/Arrays$LegacyMergeSort"), (1, u "Z"), (257, .class_ 376), (0, u "java/util/Arrays$ArrayList"), (68, u "$assertionsDisabled"), (269, u "MIN_ARRAY_SORT_GRAN"), (0, u "I"), (2, u "INSERTIONSORT_THRESHOLD"), (8, u "([III)V"), (111, u "fill"), (3, u "([JIIJ)V"), (130, .class_ 976), (0, u "java/util/Arrays$ArrayItr")] 52

def k17m0 : Method := { name := "<init>", desc := "()V", sig := { parameters := [], returnType := none }, accessFlags := 2, code := none }
def k17c1 : Code := { maxStack := 4, maxLocals := 3, code := jdk_65_method_3_code, exceptionTable := #[], attributes := #[] }
def k17m1 : Method := { name := "sort", desc := "([III)V", sig := { parameters := [(.array .int), .int, .int], returnType := none }, accessFlags := 9, code := some k17c1 }
def k17c2 : Code := { maxStack := 4, maxLocals := 3, code := jdk_65_method_30_code, exceptionTable := #[], attributes := #[] }
def k17m2 : Method := { name := "rangeCheck", desc := "(III)V", sig := { parameters := [.int, .int, .int], returnType := none }, accessFlags := 8, code := some k17c2 }
def k17c3 : Code := { maxStack := 4, maxLocals := 6, code := jdk_65_method_102_code, exceptionTable := #[], attributes := #[] }
def k17m3 : Method := { name := "fill", desc := "([JIIJ)V", sig := { parameters := [(.array .long), .int, .int, .long], returnType := none }, accessFlags := 9, code := some k17c3 }
def k17c4 : Code := { maxStack := 3, maxLocals := 5, code := jdk_65_method_104_code, exceptionTable := #[], attributes := #[] }
def k17m4 : Method := { name := "fill", desc := "([IIII)V", sig := { parameters := [(.array .int), .int, .int, .int], returnType := none }, accessFlags := 9, code := some k17c4 }
/-- java/util/Arrays -/
def k17 : Class := { plain "java/util/Arrays" (some 0) with
  accessFlags := 49
  interfaces := #[]
  cf := some (fileOf pool17 14 #[.nestMembers #[975, 375, 113, 74]] #[{ accessFlags := 2, nameIndex := 5, descriptorIndex := 6, attributes := #[] }, { accessFlags := 9, nameIndex := 11, descriptorIndex := 728, attributes := #[] }, { accessFlags := 8, nameIndex := 17, descriptorIndex := 18, attributes := #[] }, { accessFlags := 9, nameIndex := 840, descriptorIndex := 844, attributes := #[] }, { accessFlags := 9, nameIndex := 840, descriptorIndex := 12, attributes := #[] }] 49 2 #[] #[{ accessFlags := 26, nameIndex := 715, descriptorIndex := 716, attributes := #[] }, { accessFlags := 26, nameIndex := 719, descriptorIndex := 716, attributes := #[] }, { accessFlags := 4120, nameIndex := 445, descriptorIndex := 117, attributes := #[] }])
  fields := #[{ name := "MIN_ARRAY_SORT_GRAN", type := .int, accessFlags := 26, slot := 0, constantValue := 0 }, { name := "INSERTIONSORT_THRESHOLD", type := .int, accessFlags := 26, slot := 1, constantValue := 0 }, { name := "$assertionsDisabled", type := .boolean, accessFlags := 4120, slot := 2, constantValue := 0 }]
  methods := #[k17m0, k17m1, k17m2, k17m3, k17m4]
  instanceTypes := #[]
  staticTypes := #[.int, .int, .boolean]
  resolved := Array.replicate 1029 none
  statics := none }

def pool18 : Array CpInfo := pool [(1, .class_ 2), (0, u "java/util/DualPivotQuicksort"), (5, .class_ 10), (1, u "java/lang/Object"), (0, u "<init>"), (0, u "()V"), (4, .class_ 18), (0, u "java/util/DualPivotQuicksort$Sorter"), (7, .methodref 1 27), (0, .nameAndType 28 29), (0, u "sort"), (0, u "(Ljava/util/DualPivotQuicksort$Sorter;[IIII)V"), (3, u "([IIII)V"), (0, .methodref 1 35), (0, .nameAndType 36 37), (0, u "insertionSort"), (0, u "([III)V"), (30, u "I"), (4, .class_ 74), (0, u "java/util/DualPivotQuicksort$RunMerger"), (10, .class_ 86), (0, u "java/util/DualPivotQuicksort$Merger"), (127, u "MAX_MIXED_INSERTION_SORT_SIZE"), (2, u "MAX_INSERTION_SORT_SIZE"), (1, u "MIN_PARALLEL_SORT_SIZE"), (1, u "MIN_TRY_MERGE_SIZE"), (0, u "MIN_FIRST_RUN_SIZE"), (1, u "MIN_FIRST_RUNS_FACTOR"), (1, u "MAX_RUN_CAPACITY"), (1, u "MIN_RUN_COUNT"), (1, u "MIN_PARALLEL_MERGE_PARTS_SIZE"), (0, u "MIN_BYTE_COUNTING_SORT_SIZE"), (1, u "MIN_SHORT_OR_CHAR_COUNTING_SORT_SIZE"), (1, u "DELTA"), (1, u "MAX_RECURSION_DEPTH"), (1, u "NUM_BYTE_VALUES"), (1, u "MAX_BYTE_INDEX"), (0, u "NUM_CHAR_VALUES"), (0, u "NUM_SHORT_VALUES"), (0, u "MAX_SHORT_INDEX")] 86

def k18m0 : Method := { name := "<init>", desc := "()V", sig := { parameters := [], returnType := none }, accessFlags := 2, code := none }
def k18c1 : Code := { maxStack := 9, maxLocals := 7, code := jdk_2529_method_3_code, exceptionTable := #[], attributes := #[] }
def k18m1 : Method := { name := "sort", desc := "([IIII)V", sig := { parameters := [(.array .int), .int, .int, .int], returnType := none }, accessFlags := 8, code := some k18c1 }
def k18c2 : Code := { maxStack := 6, maxLocals := 21, code := jdk_2529_method_4_code, exceptionTable := #[], attributes := #[] }
def k18m2 : Method := { name := "sort", desc := "(Ljava/util/DualPivotQuicksort$Sorter;[IIII)V", sig := { parameters := [(.object "java/util/DualPivotQuicksort$Sorter"), (.array .int), .int, .int, .int], returnType := none }, accessFlags := 8, code := some k18c2 }
def k18c3 : Code := { maxStack := 4, maxLocals := 6, code := jdk_2529_method_6_code, exceptionTable := #[], attributes := #[] }
def k18m3 : Method := { name := "insertionSort", desc := "([III)V", sig := { parameters := [(.array .int), .int, .int], returnType := none }, accessFlags := 10, code := some k18c3 }
/-- java/util/DualPivotQuicksort -/
def k18 : Class := { plain "java/util/DualPivotQuicksort" (some 0) with
  accessFlags := 48
  interfaces := #[]
  cf := some (fileOf pool18 1 #[.nestMembers #[73, 85, 17]] #[{ accessFlags := 2, nameIndex := 11, descriptorIndex := 12, attributes := #[] }, { accessFlags := 8, nameIndex := 28, descriptorIndex := 33, attributes := #[] }, { accessFlags := 8, nameIndex := 28, descriptorIndex := 29, attributes := #[] }, { accessFlags := 10, nameIndex := 36, descriptorIndex := 37, attributes := #[] }] 48 8 #[] #[{ accessFlags := 26, nameIndex := 214, descriptorIndex := 68, attributes := #[] }, { accessFlags := 26, nameIndex := 217, descriptorIndex := 68, attributes := #[] }, { accessFlags := 26, nameIndex := 219, descriptorIndex := 68, attributes := #[] }, { accessFlags := 26, nameIndex := 221, descriptorIndex := 68, attributes := #[] }, { accessFlags := 26, nameIndex := 222, descriptorIndex := 68, attributes := #[] }, { accessFlags := 26, nameIndex := 224, descriptorIndex := 68, attributes := #[] }, { accessFlags := 26, nameIndex := 226, descriptorIndex := 68, attributes := #[] }, { accessFlags := 26, nameIndex := 228, descriptorIndex := 68, attributes := #[] }, { accessFlags := 26, nameIndex := 230, descriptorIndex := 68, attributes := #[] }, { accessFlags := 26, nameIndex := 231, descriptorIndex := 68, attributes := #[] }, { accessFlags := 26, nameIndex := 233, descriptorIndex := 68, attributes := #[] }, { accessFlags := 26, nameIndex := 235, descriptorIndex := 68, attributes := #[] }, { accessFlags := 26, nameIndex := 237, descriptorIndex := 68, attributes := #[] }, { accessFlags := 26, nameIndex := 239, descriptorIndex := 68, attributes := #[] }, { accessFlags := 26, nameIndex := 241, descriptorIndex := 68, attributes := #[] }, { accessFlags := 26, nameIndex := 242, descriptorIndex := 68, attributes := #[] }, { accessFlags := 26, nameIndex := 243, descriptorIndex := 68, attributes := #[] }, { accessFlags := 26, nameIndex := 244, descriptorIndex := 68, attributes := #[] }])
  fields := #[{ name := "MAX_MIXED_INSERTION_SORT_SIZE", type := .int, accessFlags := 26, slot := 0, constantValue := 0 }, { name := "MAX_INSERTION_SORT_SIZE", type := .int, accessFlags := 26, slot := 1, constantValue := 0 }, { name := "MIN_PARALLEL_SORT_SIZE", type := .int, accessFlags := 26, slot := 2, constantValue := 0 }, { name := "MIN_TRY_MERGE_SIZE", type := .int, accessFlags := 26, slot := 3, constantValue := 0 }, { name := "MIN_FIRST_RUN_SIZE", type := .int, accessFlags := 26, slot := 4, constantValue := 0 }, { name := "MIN_FIRST_RUNS_FACTOR", type := .int, accessFlags := 26, slot := 5, constantValue := 0 }, { name := "MAX_RUN_CAPACITY", type := .int, accessFlags := 26, slot := 6, constantValue := 0 }, { name := "MIN_RUN_COUNT", type := .int, accessFlags := 26, slot := 7, constantValue := 0 }, { name := "MIN_PARALLEL_MERGE_PARTS_SIZE", type := .int, accessFlags := 26, slot := 8, constantValue := 0 }, { name := "MIN_BYTE_COUNTING_SORT_SIZE", type := .int, accessFlags := 26, slot := 9, constantValue := 0 }, { name := "MIN_SHORT_OR_CHAR_COUNTING_SORT_SIZE", type := .int, accessFlags := 26, slot := 10, constantValue := 0 }, { name := "DELTA", type := .int, accessFlags := 26, slot := 11, constantValue := 0 }, { name := "MAX_RECURSION_DEPTH", type := .int, accessFlags := 26, slot := 12, constantValue := 0 }, { name := "NUM_BYTE_VALUES", type := .int, accessFlags := 26, slot := 13, constantValue := 0 }, { name := "MAX_BYTE_INDEX", type := .int, accessFlags := 26, slot := 14, constantValue := 0 }, { name := "NUM_CHAR_VALUES", type := .int, accessFlags := 26, slot := 15, constantValue := 0 }, { name := "NUM_SHORT_VALUES", type := .int, accessFlags := 26, slot := 16, constantValue := 0 }, { name := "MAX_SHORT_INDEX", type := .int, accessFlags := 26, slot := 17, constantValue := 0 }]
  methods := #[k18m0, k18m1, k18m2, k18m3]
  instanceTypes := #[]
  staticTypes := #[.int, .int, .int, .int, .int, .int, .int, .int, .int, .int, .int, .int, .int, .int, .int, .int, .int, .int]
  resolved := Array.replicate 331 none
  statics := none }

def pool19 : Array CpInfo := pool [(1, u "java/lang/Cloneable"), (0, .class_ 1), (0, u "java/lang/Object"), (0, .class_ 3)] 3

/-- java/lang/Cloneable -/
def k19 : Class := { plain "java/lang/Cloneable" (some 0) with
  accessFlags := 1537
  interfaces := #[]
  cf := some (fileOf pool19 2 #[] #[] 1537 4 #[] #[])
  fields := #[]
  methods := #[]
  instanceTypes := #[]
  staticTypes := #[]
  resolved := Array.replicate 8 none
  statics := none }

/-- the primitive boolean -/
def k20 : Class := { plain "boolean" none with kind := .primitive 'Z', accessFlags := 0x411 }
/-- [Z -/
def k21 : Class := { plain "[Z" (some 0) with kind := .array 20 .boolean, interfaces := #[19, 3], accessFlags := 1041 }

/-- the primitive byte -/
def k22 : Class := { plain "byte" none with kind := .primitive 'B', accessFlags := 0x411 }
/-- [B -/
def k23 : Class := { plain "[B" (some 0) with kind := .array 22 .byte, interfaces := #[19, 3], accessFlags := 1041 }

/-- the primitive int -/
def k24 : Class := { plain "int" none with kind := .primitive 'I', accessFlags := 0x411 }
/-- [I -/
def k25 : Class := { plain "[I" (some 0) with kind := .array 24 .int, interfaces := #[19, 3], accessFlags := 1041 }

/-- the primitive long -/
def k26 : Class := { plain "long" none with kind := .primitive 'J', accessFlags := 0x411 }
/-- [J -/
def k27 : Class := { plain "[J" (some 0) with kind := .array 26 .long, interfaces := #[19, 3], accessFlags := 1041 }

/-- [Lcom/example/lockstep/lockstep/engine/AddressedMessages$Outbox; -/
def k28 : Class := { plain "[Lcom/example/lockstep/lockstep/engine/AddressedMessages$Outbox;" (some 0) with kind := .array 9 (.object "com/example/lockstep/lockstep/engine/AddressedMessages$Outbox"), interfaces := #[19, 3], accessFlags := 1041 }

def heap : Heap := #[]
def classes : Array Class := #[k0, k1, k2, k3, k4, k5, k6, k7, k8, k9, k10, k11, k12, k13, k14, k15, k16, k17, k18, k19, k20, k21, k22, k23, k24, k25, k26, k27, k28]
def interned : List (Array UInt16 × Addr) := []
def slotsUsed : Nat := 0
def theMethod : MethodId := ⟨1, 3⟩
def args0 : Array Value := #[.int 2050, .long 281483566907400, .int 60, .int 1, .int 8, .long 3]
def aboutOver (below : List Frame) : State where
  vm := { classes := classes, interned := interned.toArray }
  heap := heap
  slotsUsed := slotsUsed
  threads := #[{ frames := .invoking theMethod args0 :: below }]
def below0 : List Frame := [.native { method := ⟨0, 0⟩, args := #[] }]
def about1 : State := aboutOver below0
def p0 : Program := .bare "" "" ""
def e0 : Env := launch0.env 0 0 0
theorem w_frames : about1.frames = Frame.invoking theMethod args0 :: below0 := rfl
set_option maxRecDepth 65536 in
theorem w_args : argsFit about1.vm theMethod args0 = true := by decide +kernel
set_option maxRecDepth 65536 in
theorem w_heap : heapFits about1 = true := by decide +kernel
set_option maxRecDepth 65536 in
theorem w_runnable : about1.curStatus? = some .runnable := by decide +kernel
set_option maxRecDepth 65536 in
theorem w_alone : about1.alone = true := by decide +kernel
set_option maxRecDepth 65536 in
theorem w_named : about1.methodNamed? x = some theMethod := by decide +kernel
set_option maxRecDepth 65536 in
theorem w_hears : about1.hears theMethod below0 = true := by decide +kernel
set_option maxRecDepth 65536 in
theorem w_ripe : about1.ripe theMethod args0 below0 = true := by decide +kernel
theorem w_running : about1.status = .running := rfl
set_option maxRecDepth 65536 in
theorem w_room : about1.hasRoom e0.platform room_1 = true :=
  launch0.hasRoom_least _ room_1 (by decide +kernel) (by decide +kernel) (by decide +kernel) (by decide +kernel) (by decide +kernel) (by decide +kernel)
theorem allAtoms_all (ts : List Jvm.Cond) (a : Array Jvm.Value) (st : Jvm.State) : (allAtoms ts).before a st = ts.all (fun c => c.before a st) := by
  induction ts with
  | nil => rfl
  | cons c t ih =>
    show (Jvm.Cond.and c (allAtoms t)).before a st = _
    rw [Jvm.Cond.before_and, ih, List.all_cons]
def words1 : List Jvm.Cond := Jvm.Cond.code x code maxLocals ret :: tables_1
/-- a 'code' word, met by the world's own term for the bytes: nothing is compared byte by byte -/
theorem code_word {y : MethodName} {bytes : ByteArray} {mx : Nat} {rt : Option FieldType} {a : Array Value} {s : State} {m : MethodId} {meth : Method} {c : Code} (h1 : s.methodNamed? y = some m) (h2 : s.vm.method? m = some meth) (h3 : meth.code = some c) (h4 : c.code = bytes)
    (h5 : (c.maxLocals == mx && c.exceptionTable.isEmpty && decide (c.maxStack ≤ mostOperands) && decide (meth.sig.returnType = rt) && !meth.locks && decide (parseMethodDescriptor y.desc = some meth.sig)) = true) : (Jvm.Cond.code y bytes mx rt).before a s = true := by
  simp only [Bool.and_eq_true, beq_iff_eq, Bool.not_eq_true', decide_eq_true_eq] at h5
  obtain ⟨⟨⟨⟨⟨g1, g2⟩, g3⟩, g4⟩, g5⟩, g6⟩ := h5
  simp [Cond.before, Cond.holds, Cond.value, h1, h2, h3, h4, g1, g2, g3, g4, g5, g6]
def isCode : Jvm.Cond → Bool
  | .code _ _ _ _ => true
  | _ => false
theorem all_split {L : List Jvm.Cond} {P : Jvm.Cond → Bool} (h1 : L.all (fun c => isCode c || P c) = true) (h2 : ∀ c ∈ L.filter isCode, P c = true) : L.all P = true := by
  refine List.all_eq_true.mpr fun c hc => ?_
  have h := List.all_eq_true.mp h1 c hc
  rcases Bool.eq_false_or_eq_true (isCode c) with hi | hi
  · exact h2 c (List.mem_filter.mpr ⟨hc, hi⟩)
  · simpa [hi] using h
set_option maxRecDepth 65536 in
theorem w_c0 : (Jvm.Cond.code x code maxLocals ret).before args0 about1 = true := code_word (m := ⟨1, 3⟩) (meth := k1m3) (c := k1c3) (by decide +kernel) rfl rfl rfl (by decide +kernel)
set_option maxRecDepth 65536 in
theorem w_c1 : (Jvm.Cond.code ({ cls := "com/example/lockstep/lockstep/engine/AddressedMessagesEndPinLaw", name := "recv", desc := "(JII)I" } : Jvm.MethodName) method_2_code (4 : Nat) (Option.some Jvm.ClassFile.FieldType.int)).before args0 about1 = true := code_word (m := ⟨1, 1⟩) (meth := k1m1) (c := k1c1) (by decide +kernel) rfl rfl rfl (by decide +kernel)
set_option maxRecDepth 65536 in
theorem w_c2 : (Jvm.Cond.code ({ cls := "com/example/lockstep/lockstep/engine/AddressedMessages", name := "<init>", desc := "(IILjava/lang/String;)V" } : Jvm.MethodName) prog_18_method_1_code (4 : Nat) (Option.none : Option Jvm.ClassFile.FieldType)).before args0 about1 = true := code_word (m := ⟨2, 0⟩) (meth := k2m0) (c := k2c0) (by decide +kernel) rfl rfl rfl (by decide +kernel)
set_option maxRecDepth 65536 in
theorem w_c3 : (Jvm.Cond.code ({ cls := "java/lang/Object", name := "<init>", desc := "()V" } : Jvm.MethodName) object_method_1_code (1 : Nat) (Option.none : Option Jvm.ClassFile.FieldType)).before args0 about1 = true := code_word (m := ⟨0, 0⟩) (meth := k0m0) (c := k0c0) (by decide +kernel) rfl rfl rfl (by decide +kernel)
set_option maxRecDepth 65536 in
theorem w_c4 : (Jvm.Cond.code ({ cls := "com/example/lockstep/lockstep/engine/Engine", name := "blockCount", desc := "(I)I" } : Jvm.MethodName) prog_22_method_11_code (1 : Nat) (Option.some Jvm.ClassFile.FieldType.int)).before args0 about1 = true := code_word (m := ⟨11, 0⟩) (meth := k11m0) (c := k11c0) (by decide +kernel) rfl rfl rfl (by decide +kernel)
set_option maxRecDepth 65536 in
theorem w_c5 : (Jvm.Cond.code ({ cls := "com/example/lockstep/lockstep/engine/VertexSet", name := "<init>", desc := "(I)V" } : Jvm.MethodName) prog_49_method_1_code (2 : Nat) (Option.none : Option Jvm.ClassFile.FieldType)).before args0 about1 = true := code_word (m := ⟨10, 0⟩) (meth := k10m0) (c := k10c0) (by decide +kernel) rfl rfl rfl (by decide +kernel)
set_option maxRecDepth 65536 in
theorem w_c6 : (Jvm.Cond.code ({ cls := "com/example/lockstep/lockstep/engine/IndexList", name := "<init>", desc := "()V" } : Jvm.MethodName) prog_26_method_1_code (1 : Nat) (Option.none : Option Jvm.ClassFile.FieldType)).before args0 about1 = true := code_word (m := ⟨12, 0⟩) (meth := k12m0) (c := k12c0) (by decide +kernel) rfl rfl rfl (by decide +kernel)
set_option maxRecDepth 65536 in
theorem w_c7 : (Jvm.Cond.code ({ cls := "com/example/lockstep/lockstep/engine/AddressedMessages", name := "end", desc := "(I)I" } : Jvm.MethodName) prog_18_method_4_code (2 : Nat) (Option.some Jvm.ClassFile.FieldType.int)).before args0 about1 = true := code_word (m := ⟨2, 2⟩) (meth := k2m2) (c := k2c2) (by decide +kernel) rfl rfl rfl (by decide +kernel)
set_option maxRecDepth 65536 in
theorem w_c8 : (Jvm.Cond.code ({ cls := "com/example/lockstep/lockstep/engine/AddressedMessages", name := "send", desc := "(IIIJ)V" } : Jvm.MethodName) prog_18_method_2_code (7 : Nat) (Option.none : Option Jvm.ClassFile.FieldType)).before args0 about1 = true := code_word (m := ⟨2, 1⟩) (meth := k2m1) (c := k2c1) (by decide +kernel) rfl rfl rfl (by decide +kernel)
set_option maxRecDepth 65536 in
theorem w_c9 : (Jvm.Cond.code ({ cls := "com/example/lockstep/lockstep/engine/AddressedMessages$Outbox", name := "<init>", desc := "(Lcom/example/lockstep/lockstep/engine/AddressedMessages;)V" } : Jvm.MethodName) prog_19_method_1_code (2 : Nat) (Option.none : Option Jvm.ClassFile.FieldType)).before args0 about1 = true := code_word (m := ⟨9, 0⟩) (meth := k9m0) (c := k9c0) (by decide +kernel) rfl rfl rfl (by decide +kernel)
set_option maxRecDepth 65536 in
theorem w_c10 : (Jvm.Cond.code ({ cls := "com/example/lockstep/lockstep/engine/AddressedMessages$Outbox", name := "add", desc := "(IIJ)V" } : Jvm.MethodName) prog_19_method_2_code (6 : Nat) (Option.none : Option Jvm.ClassFile.FieldType)).before args0 about1 = true := code_word (m := ⟨9, 1⟩) (meth := k9m1) (c := k9c1) (by decide +kernel) rfl rfl rfl (by decide +kernel)
set_option maxRecDepth 65536 in
theorem w_c11 : (Jvm.Cond.code ({ cls := "com/example/lockstep/lockstep/engine/AddressedMessages", name := "deliver", desc := "(I)Z" } : Jvm.MethodName) prog_18_method_9_code (11 : Nat) (Option.some Jvm.ClassFile.FieldType.boolean)).before args0 about1 = true := code_word (m := ⟨2, 3⟩) (meth := k2m3) (c := k2c3) (by decide +kernel) rfl rfl rfl (by decide +kernel)
set_option maxRecDepth 65536 in
theorem w_c12 : (Jvm.Cond.code ({ cls := "com/example/lockstep/lockstep/engine/VertexSet", name := "blockCount", desc := "()I" } : Jvm.MethodName) prog_49_method_6_code (1 : Nat) (Option.some Jvm.ClassFile.FieldType.int)).before args0 about1 = true := code_word (m := ⟨10, 4⟩) (meth := k10m4) (c := k10c4) (by decide +kernel) rfl rfl rfl (by decide +kernel)
set_option maxRecDepth 65536 in
theorem w_c13 : (Jvm.Cond.code ({ cls := "com/example/lockstep/lockstep/engine/IndexList", name := "size", desc := "()I" } : Jvm.MethodName) prog_26_method_3_code (1 : Nat) (Option.some Jvm.ClassFile.FieldType.int)).before args0 about1 = true := code_word (m := ⟨12, 2⟩) (meth := k12m2) (c := k12c2) (by decide +kernel) rfl rfl rfl (by decide +kernel)
set_option maxRecDepth 65536 in
theorem w_c14 : (Jvm.Cond.code ({ cls := "com/example/lockstep/lockstep/engine/VertexSet", name := "clear", desc := "()V" } : Jvm.MethodName) prog_49_method_9_code (3 : Nat) (Option.none : Option Jvm.ClassFile.FieldType)).before args0 about1 = true := code_word (m := ⟨10, 7⟩) (meth := k10m7) (c := k10c7) (by decide +kernel) rfl rfl rfl (by decide +kernel)
set_option maxRecDepth 65536 in
theorem w_c15 : (Jvm.Cond.code ({ cls := "com/example/lockstep/lockstep/engine/IndexList", name := "clear", desc := "()V" } : Jvm.MethodName) prog_26_method_7_code (1 : Nat) (Option.none : Option Jvm.ClassFile.FieldType)).before args0 about1 = true := code_word (m := ⟨12, 5⟩) (meth := k12m5) (c := k12c5) (by decide +kernel) rfl rfl rfl (by decide +kernel)
set_option maxRecDepth 65536 in
theorem w_c16 : (Jvm.Cond.code ({ cls := "com/example/lockstep/lockstep/engine/VertexSet", name := "add", desc := "(I)V" } : Jvm.MethodName) prog_49_method_2_code (2 : Nat) (Option.none : Option Jvm.ClassFile.FieldType)).before args0 about1 = true := code_word (m := ⟨10, 1⟩) (meth := k10m1) (c := k10c1) (by decide +kernel) rfl rfl rfl (by decide +kernel)
set_option maxRecDepth 65536 in
theorem w_c17 : (Jvm.Cond.code ({ cls := "com/example/lockstep/lockstep/engine/VertexSet", name := "hold", desc := "(I)V" } : Jvm.MethodName) prog_49_method_4_code (2 : Nat) (Option.none : Option Jvm.ClassFile.FieldType)).before args0 about1 = true := code_word (m := ⟨10, 2⟩) (meth := k10m2) (c := k10c2) (by decide +kernel) rfl rfl rfl (by decide +kernel)
set_option maxRecDepth 65536 in
theorem w_c18 : (Jvm.Cond.code ({ cls := "com/example/lockstep/lockstep/engine/IndexList", name := "add", desc := "(I)V" } : Jvm.MethodName) prog_26_method_2_code (2 : Nat) (Option.none : Option Jvm.ClassFile.FieldType)).before args0 about1 = true := code_word (m := ⟨12, 1⟩) (meth := k12m1) (c := k12c1) (by decide +kernel) rfl rfl rfl (by decide +kernel)
set_option maxRecDepth 65536 in
theorem w_c19 : (Jvm.Cond.code ({ cls := "com/example/lockstep/lockstep/engine/VertexSet", name := "sort", desc := "()V" } : Jvm.MethodName) prog_49_method_5_code (1 : Nat) (Option.none : Option Jvm.ClassFile.FieldType)).before args0 about1 = true := code_word (m := ⟨10, 3⟩) (meth := k10m3) (c := k10c3) (by decide +kernel) rfl rfl rfl (by decide +kernel)
set_option maxRecDepth 65536 in
theorem w_c20 : (Jvm.Cond.code ({ cls := "com/example/lockstep/lockstep/engine/VertexSet", name := "block", desc := "(I)I" } : Jvm.MethodName) prog_49_method_7_code (2 : Nat) (Option.some Jvm.ClassFile.FieldType.int)).before args0 about1 = true := code_word (m := ⟨10, 5⟩) (meth := k10m5) (c := k10c5) (by decide +kernel) rfl rfl rfl (by decide +kernel)
set_option maxRecDepth 65536 in
theorem w_c21 : (Jvm.Cond.code ({ cls := "com/example/lockstep/lockstep/engine/IndexList", name := "get", desc := "(I)I" } : Jvm.MethodName) prog_26_method_4_code (2 : Nat) (Option.some Jvm.ClassFile.FieldType.int)).before args0 about1 = true := code_word (m := ⟨12, 3⟩) (meth := k12m3) (c := k12c3) (by decide +kernel) rfl rfl rfl (by decide +kernel)
set_option maxRecDepth 65536 in
theorem w_c22 : (Jvm.Cond.code ({ cls := "com/example/lockstep/lockstep/engine/VertexSet", name := "next", desc := "(II)I" } : Jvm.MethodName) prog_49_method_8_code (7 : Nat) (Option.some Jvm.ClassFile.FieldType.int)).before args0 about1 = true := code_word (m := ⟨10, 6⟩) (meth := k10m6) (c := k10c6) (by decide +kernel) rfl rfl rfl (by decide +kernel)
set_option maxRecDepth 65536 in
theorem w_c23 : (Jvm.Cond.code ({ cls := "java/lang/Long", name := "numberOfTrailingZeros", desc := "(J)I" } : Jvm.MethodName) jdk_35_method_49_code (3 : Nat) (Option.some Jvm.ClassFile.FieldType.int)).before args0 about1 = true := code_word (m := ⟨14, 0⟩) (meth := k14m0) (c := k14c0) (by decide +kernel) rfl rfl rfl (by decide +kernel)
set_option maxRecDepth 65536 in
theorem w_c24 : (Jvm.Cond.code ({ cls := "java/lang/Integer", name := "numberOfTrailingZeros", desc := "(I)I" } : Jvm.MethodName) jdk_33_method_48_code (2 : Nat) (Option.some Jvm.ClassFile.FieldType.int)).before args0 about1 = true := code_word (m := ⟨15, 0⟩) (meth := k15m0) (c := k15c0) (by decide +kernel) rfl rfl rfl (by decide +kernel)
set_option maxRecDepth 65536 in
theorem w_c25 : (Jvm.Cond.code ({ cls := "com/example/lockstep/lockstep/engine/AddressedMessagesEndPinLaw", name := "countIf", desc := "(ZZ)I" } : Jvm.MethodName) method_3_code (2 : Nat) (Option.some Jvm.ClassFile.FieldType.int)).before args0 about1 = true := code_word (m := ⟨1, 2⟩) (meth := k1m2) (c := k1c2) (by decide +kernel) rfl rfl rfl (by decide +kernel)
set_option maxRecDepth 65536 in
theorem w_c26 : (Jvm.Cond.code ({ cls := "com/example/lockstep/lockstep/engine/Engine", name := "blockEnd", desc := "(II)I" } : Jvm.MethodName) prog_22_method_12_code (2 : Nat) (Option.some Jvm.ClassFile.FieldType.int)).before args0 about1 = true := code_word (m := ⟨11, 1⟩) (meth := k11m1) (c := k11c1) (by decide +kernel) rfl rfl rfl (by decide +kernel)
set_option maxRecDepth 65536 in
theorem w_c27 : (Jvm.Cond.code ({ cls := "java/lang/Math", name := "min", desc := "(JJ)J" } : Jvm.MethodName) jdk_29_method_70_code (4 : Nat) (Option.some Jvm.ClassFile.FieldType.long)).before args0 about1 = true := code_word (m := ⟨16, 1⟩) (meth := k16m1) (c := k16c1) (by decide +kernel) rfl rfl rfl (by decide +kernel)
set_option maxRecDepth 65536 in
theorem w_c28 : (Jvm.Cond.code ({ cls := "java/util/Arrays", name := "fill", desc := "([IIII)V" } : Jvm.MethodName) jdk_65_method_104_code (5 : Nat) (Option.none : Option Jvm.ClassFile.FieldType)).before args0 about1 = true := code_word (m := ⟨17, 4⟩) (meth := k17m4) (c := k17c4) (by decide +kernel) rfl rfl rfl (by decide +kernel)
set_option maxRecDepth 65536 in
theorem w_c29 : (Jvm.Cond.code ({ cls := "java/util/Arrays", name := "rangeCheck", desc := "(III)V" } : Jvm.MethodName) jdk_65_method_30_code (3 : Nat) (Option.none : Option Jvm.ClassFile.FieldType)).before args0 about1 = true := code_word (m := ⟨17, 2⟩) (meth := k17m2) (c := k17c2) (by decide +kernel) rfl rfl rfl (by decide +kernel)
set_option maxRecDepth 65536 in
theorem w_c30 : (Jvm.Cond.code ({ cls := "java/util/Arrays", name := "fill", desc := "([JIIJ)V" } : Jvm.MethodName) jdk_65_method_102_code (6 : Nat) (Option.none : Option Jvm.ClassFile.FieldType)).before args0 about1 = true := code_word (m := ⟨17, 3⟩) (meth := k17m3) (c := k17c3) (by decide +kernel) rfl rfl rfl (by decide +kernel)
set_option maxRecDepth 65536 in
theorem w_c31 : (Jvm.Cond.code ({ cls := "com/example/lockstep/lockstep/engine/IndexList", name := "sort", desc := "()V" } : Jvm.MethodName) prog_26_method_5_code (1 : Nat) (Option.none : Option Jvm.ClassFile.FieldType)).before args0 about1 = true := code_word (m := ⟨12, 4⟩) (meth := k12m4) (c := k12c4) (by decide +kernel) rfl rfl rfl (by decide +kernel)
set_option maxRecDepth 65536 in
theorem w_c32 : (Jvm.Cond.code ({ cls := "java/util/Arrays", name := "sort", desc := "([III)V" } : Jvm.MethodName) jdk_65_method_3_code (3 : Nat) (Option.none : Option Jvm.ClassFile.FieldType)).before args0 about1 = true := code_word (m := ⟨17, 1⟩) (meth := k17m1) (c := k17c1) (by decide +kernel) rfl rfl rfl (by decide +kernel)
set_option maxRecDepth 65536 in
theorem w_c33 : (Jvm.Cond.code ({ cls := "java/util/DualPivotQuicksort", name := "sort", desc := "([IIII)V" } : Jvm.MethodName) jdk_2529_method_3_code (7 : Nat) (Option.none : Option Jvm.ClassFile.FieldType)).before args0 about1 = true := code_word (m := ⟨18, 1⟩) (meth := k18m1) (c := k18c1) (by decide +kernel) rfl rfl rfl (by decide +kernel)
set_option maxRecDepth 65536 in
theorem w_c34 : (Jvm.Cond.code ({ cls := "java/util/DualPivotQuicksort", name := "sort", desc := "(Ljava/util/DualPivotQuicksort$Sorter;[IIII)V" } : Jvm.MethodName) jdk_2529_method_4_code (21 : Nat) (Option.none : Option Jvm.ClassFile.FieldType)).before args0 about1 = true := code_word (m := ⟨18, 2⟩) (meth := k18m2) (c := k18c2) (by decide +kernel) rfl rfl rfl (by decide +kernel)
set_option maxRecDepth 65536 in
theorem w_c35 : (Jvm.Cond.code ({ cls := "java/util/DualPivotQuicksort", name := "insertionSort", desc := "([III)V" } : Jvm.MethodName) jdk_2529_method_6_code (6 : Nat) (Option.none : Option Jvm.ClassFile.FieldType)).before args0 about1 = true := code_word (m := ⟨18, 3⟩) (meth := k18m3) (c := k18c3) (by decide +kernel) rfl rfl rfl (by decide +kernel)
def codes1 : List Jvm.Cond := [Jvm.Cond.code x code maxLocals ret, Jvm.Cond.code ({ cls := "com/example/lockstep/lockstep/engine/AddressedMessagesEndPinLaw", name := "recv", desc := "(JII)I" } : Jvm.MethodName) method_2_code (4 : Nat) (Option.some Jvm.ClassFile.FieldType.int), Jvm.Cond.code ({ cls := "com/example/lockstep/lockstep/engine/AddressedMessages", name := "<init>", desc := "(IILjava/lang/String;)V" } : Jvm.MethodName) prog_18_method_1_code (4 : Nat) (Option.none : Option Jvm.ClassFile.FieldType), Jvm.Cond.code ({ cls := "java/lang/Object", name := "<init>", desc := "()V" } : Jvm.MethodName) object_method_1_code (1 : Nat) (Option.none : Option Jvm.ClassFile.FieldType), Jvm.Cond.code ({ cls := "com/example/lockstep/lockstep/engine/Engine", name := "blockCount", desc := "(I)I" } : Jvm.MethodName) prog_22_method_11_code (1 : Nat) (Option.some Jvm.ClassFile.FieldType.int), Jvm.Cond.code ({ cls := "com/example/lockstep/lockstep/engine/VertexSet", name := "<init>", desc := "(I)V" } : Jvm.MethodName) prog_49_method_1_code (2 : Nat) (Option.none : Option Jvm.ClassFile.FieldType), Jvm.Cond.code ({ cls := "com/example/lockstep/lockstep/engine/IndexList", name := "<init>", desc := "()V" } : Jvm.MethodName) prog_26_method_1_code (1 : Nat) (Option.none : Option Jvm.ClassFile.FieldType), Jvm.Cond.code ({ cls := "com/example/lockstep/lockstep/engine/AddressedMessages", name := "end", desc := "(I)I" } : Jvm.MethodName) prog_18_method_4_code (2 : Nat) (Option.some Jvm.ClassFile.FieldType.int), Jvm.Cond.code ({ cls := "com/example/lockstep/lockstep/engine/AddressedMessages", name := "send", desc := "(IIIJ)V" } : Jvm.MethodName) prog_18_method_2_code (7 : Nat) (Option.none : Option Jvm.ClassFile.FieldType), Jvm.Cond.code ({ cls := "com/example/lockstep/lockstep/engine/AddressedMessages$Outbox", name := "<init>", desc := "(Lcom/example/lockstep/lockstep/engine/AddressedMessages;)V" } : Jvm.MethodName) prog_19_method_1_code (2 : Nat) (Option.none : Option Jvm.ClassFile.FieldType), Jvm.Cond.code ({ cls := "com/example/lockstep/lockstep/engine/AddressedMessages$Outbox", name := "add", desc := "(IIJ)V" } : Jvm.MethodName) prog_19_method_2_code (6 : Nat) (Option.none : Option Jvm.ClassFile.FieldType), Jvm.Cond.code ({ cls := "com/example/lockstep/lockstep/engine/AddressedMessages", name := "deliver", desc := "(I)Z" } : Jvm.MethodName) prog_18_method_9_code (11 : Nat) (Option.some Jvm.ClassFile.FieldType.boolean), Jvm.Cond.code ({ cls := "com/example/lockstep/lockstep/engine/VertexSet", name := "blockCount", desc := "()I" } : Jvm.MethodName) prog_49_method_6_code (1 : Nat) (Option.some Jvm.ClassFile.FieldType.int), Jvm.Cond.code ({ cls := "com/example/lockstep/lockstep/engine/IndexList", name := "size", desc := "()I" } : Jvm.MethodName) prog_26_method_3_code (1 : Nat) (Option.some Jvm.ClassFile.FieldType.int), Jvm.Cond.code ({ cls := "com/example/lockstep/lockstep/engine/VertexSet", name := "clear", desc := "()V" } : Jvm.MethodName) prog_49_method_9_code (3 : Nat) (Option.none : Option Jvm.ClassFile.FieldType), Jvm.Cond.code ({ cls := "com/example/lockstep/lockstep/engine/IndexList", name := "clear", desc := "()V" } : Jvm.MethodName) prog_26_method_7_code (1 : Nat) (Option.none : Option Jvm.ClassFile.FieldType), Jvm.Cond.code ({ cls := "com/example/lockstep/lockstep/engine/VertexSet", name := "add", desc := "(I)V" } : Jvm.MethodName) prog_49_method_2_code (2 : Nat) (Option.none : Option Jvm.ClassFile.FieldType), Jvm.Cond.code ({ cls := "com/example/lockstep/lockstep/engine/VertexSet", name := "hold", desc := "(I)V" } : Jvm.MethodName) prog_49_method_4_code (2 : Nat) (Option.none : Option Jvm.ClassFile.FieldType), Jvm.Cond.code ({ cls := "com/example/lockstep/lockstep/engine/IndexList", name := "add", desc := "(I)V" } : Jvm.MethodName) prog_26_method_2_code (2 : Nat) (Option.none : Option Jvm.ClassFile.FieldType), Jvm.Cond.code ({ cls := "com/example/lockstep/lockstep/engine/VertexSet", name := "sort", desc := "()V" } : Jvm.MethodName) prog_49_method_5_code (1 : Nat) (Option.none : Option Jvm.ClassFile.FieldType), Jvm.Cond.code ({ cls := "com/example/lockstep/lockstep/engine/VertexSet", name := "block", desc := "(I)I" } : Jvm.MethodName) prog_49_method_7_code (2 : Nat) (Option.some Jvm.ClassFile.FieldType.int), Jvm.Cond.code ({ cls := "com/example/lockstep/lockstep/engine/IndexList", name := "get", desc := "(I)I" } : Jvm.MethodName) prog_26_method_4_code (2 : Nat) (Option.some Jvm.ClassFile.FieldType.int), Jvm.Cond.code ({ cls := "com/example/lockstep/lockstep/engine/VertexSet", name := "next", desc := "(II)I" } : Jvm.MethodName) prog_49_method_8_code (7 : Nat) (Option.some Jvm.ClassFile.FieldType.int), Jvm.Cond.code ({ cls := "java/lang/Long", name := "numberOfTrailingZeros", desc := "(J)I" } : Jvm.MethodName) jdk_35_method_49_code (3 : Nat) (Option.some Jvm.ClassFile.FieldType.int), Jvm.Cond.code ({ cls := "java/lang/Integer", name := "numberOfTrailingZeros", desc := "(I)I" } : Jvm.MethodName) jdk_33_method_48_code (2 : Nat) (Option.some Jvm.ClassFile.FieldType.int), Jvm.Cond.code ({ cls := "com/example/lockstep/lockstep/engine/AddressedMessagesEndPinLaw", name := "countIf", desc := "(ZZ)I" } : Jvm.MethodName) method_3_code (2 : Nat) (Option.some Jvm.ClassFile.FieldType.int), Jvm.Cond.code ({ cls := "com/example/lockstep/lockstep/engine/Engine", name := "blockEnd", desc := "(II)I" } : Jvm.MethodName) prog_22_method_12_code (2 : Nat) (Option.some Jvm.ClassFile.FieldType.int), Jvm.Cond.code ({ cls := "java/lang/Math", name := "min", desc := "(JJ)J" } : Jvm.MethodName) jdk_29_method_70_code (4 : Nat) (Option.some Jvm.ClassFile.FieldType.long), Jvm.Cond.code ({ cls := "java/util/Arrays", name := "fill", desc := "([IIII)V" } : Jvm.MethodName) jdk_65_method_104_code (5 : Nat) (Option.none : Option Jvm.ClassFile.FieldType), Jvm.Cond.code ({ cls := "java/util/Arrays", name := "rangeCheck", desc := "(III)V" } : Jvm.MethodName) jdk_65_method_30_code (3 : Nat) (Option.none : Option Jvm.ClassFile.FieldType), Jvm.Cond.code ({ cls := "java/util/Arrays", name := "fill", desc := "([JIIJ)V" } : Jvm.MethodName) jdk_65_method_102_code (6 : Nat) (Option.none : Option Jvm.ClassFile.FieldType), Jvm.Cond.code ({ cls := "com/example/lockstep/lockstep/engine/IndexList", name := "sort", desc := "()V" } : Jvm.MethodName) prog_26_method_5_code (1 : Nat) (Option.none : Option Jvm.ClassFile.FieldType), Jvm.Cond.code ({ cls := "java/util/Arrays", name := "sort", desc := "([III)V" } : Jvm.MethodName) jdk_65_method_3_code (3 : Nat) (Option.none : Option Jvm.ClassFile.FieldType), Jvm.Cond.code ({ cls := "java/util/DualPivotQuicksort", name := "sort", desc := "([IIII)V" } : Jvm.MethodName) jdk_2529_method_3_code (7 : Nat) (Option.none : Option Jvm.ClassFile.FieldType), Jvm.Cond.code ({ cls := "java/util/DualPivotQuicksort", name := "sort", desc := "(Ljava/util/DualPivotQuicksort$Sorter;[IIII)V" } : Jvm.MethodName) jdk_2529_method_4_code (21 : Nat) (Option.none : Option Jvm.ClassFile.FieldType), Jvm.Cond.code ({ cls := "java/util/DualPivotQuicksort", name := "insertionSort", desc := "([III)V" } : Jvm.MethodName) jdk_2529_method_6_code (6 : Nat) (Option.none : Option Jvm.ClassFile.FieldType)]
set_option maxRecDepth 65536 in
theorem codes_eq : words1.filter isCode = codes1 := rfl
theorem w_codes : ∀ c ∈ words1.filter isCode, c.before args0 about1 = true := by
  rw [codes_eq]
  intro c hc
  simp only [codes1, List.mem_cons, List.not_mem_nil, or_false] at hc
  rcases hc with rfl | rfl | rfl | rfl | rfl | rfl | rfl | rfl | rfl | rfl | rfl | rfl | rfl | rfl | rfl | rfl | rfl | rfl | rfl | rfl | rfl | rfl | rfl | rfl | rfl | rfl | rfl | rfl | rfl | rfl | rfl | rfl | rfl | rfl | rfl | rfl
  · exact w_c0
  · exact w_c1
  · exact w_c2
  · exact w_c3
  · exact w_c4
  · exact w_c5
  · exact w_c6
  · exact w_c7
  · exact w_c8
  · exact w_c9
  · exact w_c10
  · exact w_c11
  · exact w_c12
  · exact w_c13
  · exact w_c14
  · exact w_c15
  · exact w_c16
  · exact w_c17
  · exact w_c18
  · exact w_c19
  · exact w_c20
  · exact w_c21
  · exact w_c22
  · exact w_c23
  · exact w_c24
  · exact w_c25
  · exact w_c26
  · exact w_c27
  · exact w_c28
  · exact w_c29
  · exact w_c30
  · exact w_c31
  · exact w_c32
  · exact w_c33
  · exact w_c34
  · exact w_c35
set_option maxRecDepth 65536 in
theorem w_t1 : (words1.take 24).all (fun c => isCode c || c.before args0 about1) = true := by decide +kernel
set_option maxRecDepth 65536 in
theorem w_t2 : ((words1.drop 24).take 24).all (fun c => isCode c || c.before args0 about1) = true := by decide +kernel
set_option maxRecDepth 65536 in
theorem w_t3 : (((words1.drop 24).drop 24).take 24).all (fun c => isCode c || c.before args0 about1) = true := by decide +kernel
set_option maxRecDepth 65536 in
theorem w_t4 : ((((words1.drop 24).drop 24).drop 24).take 24).all (fun c => isCode c || c.before args0 about1) = true := by decide +kernel
set_option maxRecDepth 65536 in
theorem w_t5 : (((((words1.drop 24).drop 24).drop 24).drop 24).take 24).all (fun c => isCode c || c.before args0 about1) = true := by decide +kernel
set_option maxRecDepth 65536 in
theorem w_t6 : ((((((words1.drop 24).drop 24).drop 24).drop 24).drop 24).take 24).all (fun c => isCode c || c.before args0 about1) = true := by decide +kernel
set_option maxRecDepth 65536 in
theorem w_t7 : (((((((words1.drop 24).drop 24).drop 24).drop 24).drop 24).drop 24).take 24).all (fun c => isCode c || c.before args0 about1) = true := by decide +kernel
set_option maxRecDepth 65536 in
theorem w_t8 : ((((((((words1.drop 24).drop 24).drop 24).drop 24).drop 24).drop 24).drop 24).take 24).all (fun c => isCode c || c.before args0 about1) = true := by decide +kernel
set_option maxRecDepth 65536 in
theorem w_t9 : (((((((((words1.drop 24).drop 24).drop 24).drop 24).drop 24).drop 24).drop 24).drop 24).take 24).all (fun c => isCode c || c.before args0 about1) = true := by decide +kernel
set_option maxRecDepth 65536 in
theorem w_t10 : (((((((((words1.drop 24).drop 24).drop 24).drop 24).drop 24).drop 24).drop 24).drop 24).drop 24).all (fun c => isCode c || c.before args0 about1) = true := by decide +kernel
theorem w_tables : (allAtoms (Jvm.Cond.code x code maxLocals ret :: tables_1)).before args0 about1 = true := by
  rw [allAtoms_all]
  show words1.all (fun c => c.before args0 about1) = true
  refine all_split ?_ w_codes
  rw [← List.take_append_drop 24 words1, List.all_append, w_t1, ← List.take_append_drop 24 (words1.drop 24), List.all_append, w_t2, ← List.take_append_drop 24 ((words1.drop 24).drop 24), List.all_append, w_t3, ← List.take_append_drop 24 (((words1.drop 24).drop 24).drop 24), List.all_append, w_t4, ← List.take_append_drop 24 ((((words1.drop 24).drop 24).drop 24).drop 24), List.all_append, w_t5, ← List.take_append_drop 24 (((((words1.drop 24).drop 24).drop 24).drop 24).drop 24), List.all_append, w_t6, ← List.take_append_drop 24 ((((((words1.drop 24).drop 24).drop 24).drop 24).drop 24).drop 24), List.all_append, w_t7, ← List.take_append_drop 24 (((((((words1.drop 24).drop 24).drop 24).drop 24).drop 24).drop 24).drop 24), List.all_append, w_t8, ← List.take_append_drop 24 ((((((((words1.drop 24).drop 24).drop 24).drop 24).drop 24).drop 24).drop 24).drop 24), List.all_append, w_t9, w_t10]
  rfl
set_option maxRecDepth 65536 in
theorem w_case : (Jvm.Cond.and given_1 narrow_1).before args0 about1 = true := by decide +kernel
theorem w_applies : (headSpec (Jvm.Cond.code x code maxLocals ret :: tables_1) room_1).applies x e0.platform about1 = true :=
  (Spec.applies_iff w_frames).mpr ⟨w_running, w_runnable, w_alone, w_named, w_hears, w_ripe, w_room, w_tables⟩
theorem atStart : AtStart classFile x code maxLocals ret World_1 tables_1 room_1 Calls_1 rest_1 Pre_1 launch0 p0 e0 about1 theMethod args0 below0 :=
  ⟨lists_1, trivial, launch0.admits_env _ _ _, launch0.least_env, fairChoices_fair.cas, fairChoices_fair.clock, w_frames, w_args, w_heap, w_applies, trivial, trivial, w_case⟩
end start1
theorem witness_1 : WitnessClaimed_1 := ⟨start1.p0, start1.e0, start1.about1, start1.theMethod, start1.args0, start1.below0, start1.atStart⟩
end Jvm.Pilot.@@N@@
