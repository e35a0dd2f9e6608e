import JvmDerived
import JvmDerived.Pilot.@@N@@Statement
import JvmDerived.Pilot.@@N@@Code
set_option linter.unusedVariables false
set_option linter.unusedSimpArgs false
namespace Jvm.Pilot.@@N@@
open Jvm Jvm.ClassFile Sem Op Lib Jvm.Free Jvm.Stand Jvm.LawKit Jvm.RoadKit Bundle Jvm.Pilot.@@N@@.Jvm.D
/-! own layer: the run from a state ends in a return of which Q holds; one step leads from there to there -/
def own_ishl (x y : Int32) : Int32 := x <<< (y &&& 31)
def own_ishr (x y : Int32) : Int32 := x >>> (y &&& 31)
def own_iushr (x y : Int32) : Int32 := (x.toUInt32 >>> (y &&& 31).toUInt32).toInt32
def own_lshl (x : Int64) (y : Int32) : Int64 := x <<< (y &&& 0x3f).toInt64
def own_lshr (x : Int64) (y : Int32) : Int64 := x >>> (y &&& 0x3f).toInt64
def own_lushr (x : Int64) (y : Int32) : Int64 := (x.toUInt64 >>> (y &&& 0x3f).toInt64.toUInt64).toInt64
def own_i2b (x : Int32) : Int32 := x.toInt8.toInt32
def own_i2c (x : Int32) : Int32 := x.toUInt32.toUInt16.toUInt32.toInt32
def own_Fin (tb : Tables) (e : Env) (below : List Frame) (s : State) (Q : Option Value → Heap → List Loc → Prop) (k n : Nat) (t : State) : Prop :=
  ∃ s₂ o, Steps tb e below t s₂ ∧ s₂.status = .running ∧ Ended s₂ below o ∧ ∃ v L, o = .returned v ∧ Q v s₂.heap L ∧ FrameEnd s o s₂ L k n
theorem own_go {tb : Tables} {e : Env} {below : List Frame} {s : State} {Q : Option Value → Heap → List Loc → Prop} {k n : Nat} {t t' : State}
    (h : ∀ target, Steps tb e below t' target → Steps tb e below t target) (q : own_Fin tb e below s Q k n t') : own_Fin tb e below s Q k n t := by
  obtain ⟨s2, o, h1, h2⟩ := q
  exact ⟨s2, o, h _ h1, h2⟩
def own_QP (r : Option Value) (h0 : Heap) (n0 : Nat) (v : Option Value) (h : Heap) (L : List Loc) : Prop := v = r ∧ Fr n0 L ∧ h = h0
section OwnA
variable {p : Program} {l : Launch} {e : Env} {R : Room} {s : State} {m : MethodId} {args : Array Value} {below : List Frame} {meth : Method} {c : Code} {T : State} {locs : List Loc} {cells slots : Nat}
theorem own_mono (X : Stand p l e R s m args below meth c T locs cells slots) {k n : Nat} (hk : cells ≤ k) (hn : slots ≤ n) : Stand p l e R s m args below meth c T locs k n :=
  { X with same := X.same.mono hk hn }
theorem own_ret (X : Stand p l e R s m args below meth c T locs cells slots) (hx : p.tables.exec = Jvm.exec) (hlk : meth.locks = false) {pc : Nat} {Ls : Array Slot} {w : Value} {t : FieldType} {i : Instr} {rest : List Value} (hret : meth.sig.returnType = some t) (hn : narrow t w = w)
    (hi : (i = .ireturn ∧ (t = .int ∨ t = .boolean ∨ t = .byte ∨ t = .char ∨ t = .short) ∧ ∃ z, w = .int z) ∨ (i = .lreturn ∧ t = .long ∧ ∃ z, w = .long z) ∨ (i = .dreturn ∧ t = .double ∧ ∃ z, w = .double z) ∨ (i = .freturn ∧ t = .float ∧ ∃ z, w = .float z) ∨ (i = .areturn ∧ t.isReference = true ∧ w.isRef = true))
    (hd : decode c.code pc = .ok (i, 1)) {Q : Option Value → Heap → List Loc → Prop} {k n : Nat} (hk : cells ≤ k) (hs : slots ≤ n) (hQ : Q (some w) T.heap locs) :
    own_Fin p.tables e below s Q k n (T.setTop (mkF m pc Ls (w :: rest))) := by
  obtain ⟨fs, hr, hrun, hended, hW, hsame⟩ := X.leave (v := some w) (fun h => by rw [hret] at h; cases h) hlk
  exact ⟨_, _, retOut X hx hret hn hi hd hr, hrun, hended, _, _, rfl, hQ, ⟨_, rfl⟩, hW, hsame.mono hk hs⟩
theorem own_retV (X : Stand p l e R s m args below meth c T locs cells slots) (hx : p.tables.exec = Jvm.exec) (hlk : meth.locks = false) {pc : Nat} {Ls : Array Slot} (hret : meth.sig.returnType = none)
    (hd : decode c.code pc = .ok (.return_, 1)) {Q : Option Value → Heap → List Loc → Prop} {k n : Nat} (hk : cells ≤ k) (hs : slots ≤ n) (hQ : Q none T.heap locs) :
    own_Fin p.tables e below s Q k n (T.setTop (mkF m pc Ls [])) := by
  obtain ⟨fs, hr, hrun, hended, hW, hsame⟩ := X.leave (v := none) (fun _ => rfl) hlk
  exact ⟨_, _, X.returnOut hx hret hd hr, hrun, hended, _, _, rfl, hQ, ⟨_, rfl⟩, hW, hsame.mono hk hs⟩
end OwnA
theorem own_irem {tb : Tables} [Ours tb] {e : Env} {below : List Frame} {T target : State} {m : MethodId} {c : Code} {g : JFrame} (h : At T m c below) (hx : tb.exec = Jvm.exec) (hg : g.method = m) {x y : Int32} {rest : List Value} (hd : decode c.code g.pc = .ok (.irem, 1)) (hs : g.stack = .int y :: .int x :: rest) (hy : y ≠ 0)
    (hr : Steps tb e below (T.setTop { g with pc := g.pc + 1, stack := .int (x % y) :: rest }) target) : Steps tb e below (T.setTop g) target :=
  XS.irem h hx hg hd hs hy (by rw [irem_eq_mod x y]; exact hr)
theorem own_lrem {tb : Tables} [Ours tb] {e : Env} {below : List Frame} {T target : State} {m : MethodId} {c : Code} {g : JFrame} (h : At T m c below) (hx : tb.exec = Jvm.exec) (hg : g.method = m) {x y : Int64} {rest : List Value} (hd : decode c.code g.pc = .ok (.lrem, 1)) (hs : g.stack = .long y :: .long x :: rest) (hy : y ≠ 0)
    (hr : Steps tb e below (T.setTop { g with pc := g.pc + 1, stack := .long (x % y) :: rest }) target) : Steps tb e below (T.setTop g) target :=
  XS.lrem h hx hg hd hs hy (by rw [lrem_mod x y]; exact hr)
/-! arrays by a function of the place -/
def own_set {α : Type} (f : Nat → α) (j : Int32) (v : α) : Nat → α := fun i => if i = j.toNatClampNeg then v else f i
def own_Arf (Z : State) (h : Heap) (a : Addr) (ty : FieldType) (n : Int32) (f : Nat → Value) : Prop :=
  ∃ c : Cell, Arr Z h a c ty ∧ c.slots.size = n.toNatClampNeg ∧ ¬ n < 0 ∧ ∀ i, i < n.toNatClampNeg → c.slots[i]? = some (f i)
section OwnB
variable {Z : State} {h h' : Heap} {a b : Addr} {ty : FieldType} {n j : Int32} {f : Nat → Value} {ws : List Addr} {v : Value} {sl : Nat}
theorem own_Arf.lt (F : own_Arf Z h a ty n f) : a < h.size := by obtain ⟨c, A, -⟩ := F; exact A.lt
theorem own_Arf.ext (F : own_Arf Z h a ty n f) (E : Ext h h') : own_Arf Z h' a ty n f := by obtain ⟨c, A, r⟩ := F; exact ⟨c, A.ext E, r⟩
theorem own_Arf.other (F : own_Arf Z h b ty n f) (W : Wr h h' a sl v) (q : b ≠ a) : own_Arf Z h' b ty n f := by obtain ⟨c, A, r⟩ := F; exact ⟨c, A.other W q, r⟩
theorem own_Arf.keep (F : own_Arf Z h a ty n f) (K : Keep h h' ws) (q : a ∉ ws) : own_Arf Z h' a ty n f := by obtain ⟨c, A, r⟩ := F; exact ⟨c, ⟨K.2.1 a c A.1 q, A.2⟩, r⟩
theorem own_Arf.new {k : ClassId} (A : Arr Z h a (newA k ty n) ty) (q : ¬ n < 0) : own_Arf Z h a ty n (fun _ => defaultValue ty) :=
  ⟨_, A, sz_new _ _ _, q, fun i hi => by simp [newA, hi]⟩
theorem own_Arf.wr (F : own_Arf Z h a ty n f) (W : Wr h h' a j.toNatClampNeg v) : own_Arf Z h' a ty n (fun i => if i = j.toNatClampNeg then v else f i) := by
  obtain ⟨c, A, S, q, H⟩ := F
  refine ⟨_, A.same W, by rw [sz_set]; exact S, q, fun i hi => ?_⟩
  by_cases u : i = j.toNatClampNeg
  · subst u; simp [Cell.setSlot, S, hi]
  · simp only [if_neg u, Cell.setSlot]; rw [Array.getElem?_setIfInBounds_ne (Ne.symm u)]; exact H i hi
theorem own_Arf.fn {g : Nat → Value} (F : own_Arf Z h a ty n f) (q : ∀ i, i < n.toNatClampNeg → f i = g i) : own_Arf Z h a ty n g := by
  obtain ⟨c, A, S, q', H⟩ := F
  exact ⟨c, A, S, q', fun i hi => by rw [← q i hi]; exact H i hi⟩
variable {p : Program} {l : Launch} {e : Env} {R : Room} {s : State} {m : MethodId} {args : Array Value} {below : List Frame} {meth : Method} {c : Code} {T : State} {locs : List Loc} {cells slots : Nat} {g : JFrame} {rest : List Value}
theorem own_alen (X : Stand p l e R s m args below meth c T locs cells slots) (hx : p.tables.exec = Jvm.exec) (hZ : Z.Warmed39 s.vm) (eT : T.heap = h) (F : own_Arf Z h a ty n f) (hg : g.method = m) (hs : g.stack = .ref a :: rest) (hd : decode c.code g.pc = .ok (.arraylength, 1)) (target : State)
    (hr : Steps p.tables e below (T.setTop { g with pc := g.pc + 1, stack := .int n :: rest }) target) : Steps p.tables e below (T.setTop g) target := by
  obtain ⟨cl, A, S, q, H⟩ := F
  refine X.arraylength hx (by rw [eT]; exact A.1) (State.isArrayOf_alike hZ.alike A.2.1) hg hs hd _ ?_
  rw [len_of S q]; exact hr
theorem own_iaload (X : Stand p l e R s m args below meth c T locs cells slots) (hx : p.tables.exec = Jvm.exec) (hZ : Z.Warmed39 s.vm) (eT : T.heap = h) (F : own_Arf Z h a .int n f) (hj : ¬ j < 0 ∧ j < n) {x : Int32} (hv : f j.toNatClampNeg = .int x) (hg : g.method = m) (hs : g.stack = .int j :: .ref a :: rest) (hd : decode c.code g.pc = .ok (.iaload, 1)) (target : State)
    (hr : Steps p.tables e below (T.setTop { g with pc := g.pc + 1, stack := .int x :: rest }) target) : Steps p.tables e below (T.setTop g) target := by
  obtain ⟨cl, A, S, q, H⟩ := F
  have hin := inb_of S hj
  exact X.iaload hx (by rw [eT]; exact A.1) (State.isArrayOf_alike hZ.alike A.2.1) A.2.2 hin (by rw [H _ (by rw [← S]; omega), hv]) hg hs hd _ hr
theorem own_baload (X : Stand p l e R s m args below meth c T locs cells slots) (hx : p.tables.exec = Jvm.exec) (hZ : Z.Warmed39 s.vm) (eT : T.heap = h) (F : own_Arf Z h a .byte n f) (hj : ¬ j < 0 ∧ j < n) {x : Int32} (hv : f j.toNatClampNeg = .int x) (hg : g.method = m) (hs : g.stack = .int j :: .ref a :: rest) (hd : decode c.code g.pc = .ok (.baload, 1)) (target : State)
    (hr : Steps p.tables e below (T.setTop { g with pc := g.pc + 1, stack := .int x :: rest }) target) : Steps p.tables e below (T.setTop g) target := by
  obtain ⟨cl, A, S, q, H⟩ := F
  have hin := inb_of S hj
  exact X.baloadBytes hx (by rw [eT]; exact A.1) (State.isArrayOf_alike hZ.alike A.2.1) A.2.2 hin (by rw [H _ (by rw [← S]; omega), hv]) hg hs hd _ hr
theorem own_laload (X : Stand p l e R s m args below meth c T locs cells slots) (hx : p.tables.exec = Jvm.exec) (hZ : Z.Warmed39 s.vm) (eT : T.heap = h) (F : own_Arf Z h a .long n f) (hj : ¬ j < 0 ∧ j < n) {x : Int64} (hv : f j.toNatClampNeg = .long x) (hg : g.method = m) (hs : g.stack = .int j :: .ref a :: rest) (hd : decode c.code g.pc = .ok (.laload, 1)) (target : State)
    (hr : Steps p.tables e below (T.setTop { g with pc := g.pc + 1, stack := .long x :: rest }) target) : Steps p.tables e below (T.setTop g) target := by
  obtain ⟨cl, A, S, q, H⟩ := F
  have hin := inb_of S hj
  exact X.laload hx (by rw [eT]; exact A.1) (State.isArrayOf_alike hZ.alike A.2.1) A.2.2 hin (by rw [H _ (by rw [← S]; omega), hv]) hg hs hd _ hr
theorem own_stI (X : Stand p l e R s m args below meth c T locs cells slots) (hx : p.tables.exec = Jvm.exec) (hZ : Z.Warmed39 s.vm) (eT : T.heap = h) {q : Nat → Int32} (F : own_Arf Z h a .int n (fun i => .int (q i))) (hj : ¬ j < 0 ∧ j < n) {x : Int32} (hg : g.method = m) (hs : g.stack = .int x :: .int j :: .ref a :: rest) (hd : decode c.code g.pc = .ok (.iastore, 1)) :
    ∃ T' h', Stand p l e R s m args below meth c T' (locs ++ [⟨a, j.toNatClampNeg⟩]) cells slots ∧ T'.heap = h' ∧ Wr h h' a j.toNatClampNeg (.int x) ∧ own_Arf Z h' a .int n (fun i => .int (own_set q j x i)) ∧ ∀ target, Steps p.tables e below (T'.setTop { g with pc := g.pc + 1, stack := rest }) target → Steps p.tables e below (T.setTop g) target := by
  obtain ⟨cl, A, S, q1, H⟩ := F
  obtain ⟨T', h', X', e', W, st⟩ := stI X hx hZ eT A (inb_of S hj) hg hs hd
  refine ⟨T', h', X', e', W, (own_Arf.wr ⟨cl, A, S, q1, H⟩ W).fn fun i hi => ?_, st⟩
  simp only [own_set]; split <;> rfl
theorem own_stB (X : Stand p l e R s m args below meth c T locs cells slots) (hx : p.tables.exec = Jvm.exec) (hZ : Z.Warmed39 s.vm) (eT : T.heap = h) {q : Nat → Int32} (F : own_Arf Z h a .byte n (fun i => .int (q i))) (hj : ¬ j < 0 ∧ j < n) {x : Int32} (hg : g.method = m) (hs : g.stack = .int x :: .int j :: .ref a :: rest) (hd : decode c.code g.pc = .ok (.bastore, 1)) :
    ∃ T' h', Stand p l e R s m args below meth c T' (locs ++ [⟨a, j.toNatClampNeg⟩]) cells slots ∧ T'.heap = h' ∧ Wr h h' a j.toNatClampNeg (.int (own_i2b x)) ∧ own_Arf Z h' a .byte n (fun i => .int (own_set q j (own_i2b x) i)) ∧ ∀ target, Steps p.tables e below (T'.setTop { g with pc := g.pc + 1, stack := rest }) target → Steps p.tables e below (T.setTop g) target := by
  obtain ⟨cl, A, S, q1, H⟩ := F
  obtain ⟨T', h', X', e', W, st⟩ := stB X hx hZ eT A (inb_of S hj) hg hs hd
  refine ⟨T', h', X', e', W, (own_Arf.wr ⟨cl, A, S, q1, H⟩ W).fn fun i hi => ?_, st⟩
  simp only [own_set]; split <;> rfl
theorem own_stJ (X : Stand p l e R s m args below meth c T locs cells slots) (hx : p.tables.exec = Jvm.exec) (hZ : Z.Warmed39 s.vm) (eT : T.heap = h) {q : Nat → Int64} (F : own_Arf Z h a .long n (fun i => .long (q i))) (hj : ¬ j < 0 ∧ j < n) {x : Int64} (hg : g.method = m) (hs : g.stack = .long x :: .int j :: .ref a :: rest) (hd : decode c.code g.pc = .ok (.lastore, 1)) :
    ∃ T' h', Stand p l e R s m args below meth c T' (locs ++ [⟨a, j.toNatClampNeg⟩]) cells slots ∧ T'.heap = h' ∧ Wr h h' a j.toNatClampNeg (.long x) ∧ own_Arf Z h' a .long n (fun i => .long (own_set q j x i)) ∧ ∀ target, Steps p.tables e below (T'.setTop { g with pc := g.pc + 1, stack := rest }) target → Steps p.tables e below (T.setTop g) target := by
  obtain ⟨cl, A, S, q1, H⟩ := F
  obtain ⟨T', h', X', e', W, st⟩ := stJ X hx hZ eT A (inb_of S hj) hg hs hd
  refine ⟨T', h', X', e', W, (own_Arf.wr ⟨cl, A, S, q1, H⟩ W).fn fun i hi => ?_, st⟩
  simp only [own_set]; split <;> rfl
end OwnB
def own_QL (r : Option Value) (n0 : Nat) (v : Option Value) (h : Heap) (L : List Loc) : Prop := v = r ∧ Fr n0 L ∧ True
theorem own_ne_arf {Z : State} {h : Heap} {a b : Addr} {C : String} {ty : FieldType} {n : Int32} {f : Nat → Value} {a0 : Array Value} {k : Nat} (F : Exa Z h a C) (wi : (Cond.instantiable C k).before a0 Z = true) (G : own_Arf Z h b ty n f) : a ≠ b := by
  obtain ⟨c, A, -⟩ := G; exact ne_arr F wi A
def own_Two (a b : Slot) : Prop := (a = .unset ∧ b = .unset) ∨ ∃ x : Int64, a = .val (.long x) ∧ b = .second
theorem d1_0 : decode method_2_code 0 = .ok (.iload_n 0, 1) := by decide +kernel
theorem d1_1 : decode method_2_code 1 = .ok (.iconst 1, 1) := by decide +kernel
theorem d1_2 : decode method_2_code 2 = .ok (.iand, 1) := by decide +kernel
theorem d1_3 : decode method_2_code 3 = .ok (.ifCond .eq 9, 3) := by decide +kernel
theorem d1_6 : decode method_2_code 6 = .ok (.ldc2_w 7, 3) := by decide +kernel
theorem d1_9 : decode method_2_code 9 = .ok (.goto 4, 3) := by decide +kernel
theorem d1_12 : decode method_2_code 12 = .ok (.lconst 0, 1) := by decide +kernel
theorem d1_13 : decode method_2_code 13 = .ok (.iload_n 0, 1) := by decide +kernel
theorem d1_14 : decode method_2_code 14 = .ok (.iconst 2, 1) := by decide +kernel
theorem d1_15 : decode method_2_code 15 = .ok (.iand, 1) := by decide +kernel
theorem d1_16 : decode method_2_code 16 = .ok (.ifCond .eq 9, 3) := by decide +kernel
theorem d1_19 : decode method_2_code 19 = .ok (.ldc2_w 9, 3) := by decide +kernel
theorem d1_22 : decode method_2_code 22 = .ok (.goto 4, 3) := by decide +kernel
theorem d1_25 : decode method_2_code 25 = .ok (.lconst 0, 1) := by decide +kernel
theorem d1_26 : decode method_2_code 26 = .ok (.lor, 1) := by decide +kernel
theorem d1_27 : decode method_2_code 27 = .ok (.iload_n 0, 1) := by decide +kernel
theorem d1_28 : decode method_2_code 28 = .ok (.iconst 4, 1) := by decide +kernel
theorem d1_29 : decode method_2_code 29 = .ok (.iand, 1) := by decide +kernel
theorem d1_30 : decode method_2_code 30 = .ok (.ifCond .eq 9, 3) := by decide +kernel
theorem d1_33 : decode method_2_code 33 = .ok (.ldc2_w 11, 3) := by decide +kernel
theorem d1_36 : decode method_2_code 36 = .ok (.goto 4, 3) := by decide +kernel
theorem d1_39 : decode method_2_code 39 = .ok (.lconst 0, 1) := by decide +kernel
theorem d1_40 : decode method_2_code 40 = .ok (.lor, 1) := by decide +kernel
theorem d1_41 : decode method_2_code 41 = .ok (.iload_n 0, 1) := by decide +kernel
theorem d1_42 : decode method_2_code 42 = .ok (.bipush 8, 2) := by decide +kernel
theorem d1_44 : decode method_2_code 44 = .ok (.iand, 1) := by decide +kernel
theorem d1_45 : decode method_2_code 45 = .ok (.ifCond .eq 9, 3) := by decide +kernel
theorem d1_48 : decode method_2_code 48 = .ok (.ldc2_w 13, 3) := by decide +kernel
theorem d1_51 : decode method_2_code 51 = .ok (.goto 4, 3) := by decide +kernel
theorem d1_54 : decode method_2_code 54 = .ok (.lconst 0, 1) := by decide +kernel
theorem d1_55 : decode method_2_code 55 = .ok (.lor, 1) := by decide +kernel
theorem d1_56 : decode method_2_code 56 = .ok (.iload_n 0, 1) := by decide +kernel
theorem d1_57 : decode method_2_code 57 = .ok (.bipush 16, 2) := by decide +kernel
theorem d1_59 : decode method_2_code 59 = .ok (.iand, 1) := by decide +kernel
theorem d1_60 : decode method_2_code 60 = .ok (.ifCond .eq 9, 3) := by decide +kernel
theorem d1_63 : decode method_2_code 63 = .ok (.ldc2_w 15, 3) := by decide +kernel
theorem d1_66 : decode method_2_code 66 = .ok (.goto 4, 3) := by decide +kernel
theorem d1_69 : decode method_2_code 69 = .ok (.lconst 0, 1) := by decide +kernel
theorem d1_70 : decode method_2_code 70 = .ok (.lor, 1) := by decide +kernel
theorem d1_71 : decode method_2_code 71 = .ok (.iload_n 0, 1) := by decide +kernel
theorem d1_72 : decode method_2_code 72 = .ok (.bipush 32, 2) := by decide +kernel
theorem d1_74 : decode method_2_code 74 = .ok (.iand, 1) := by decide +kernel
theorem d1_75 : decode method_2_code 75 = .ok (.ifCond .eq 9, 3) := by decide +kernel
theorem d1_78 : decode method_2_code 78 = .ok (.ldc2_w 17, 3) := by decide +kernel
theorem d1_81 : decode method_2_code 81 = .ok (.goto 4, 3) := by decide +kernel
theorem d1_84 : decode method_2_code 84 = .ok (.lconst 0, 1) := by decide +kernel
theorem d1_85 : decode method_2_code 85 = .ok (.lor, 1) := by decide +kernel
theorem d1_86 : decode method_2_code 86 = .ok (.iload_n 0, 1) := by decide +kernel
theorem d1_87 : decode method_2_code 87 = .ok (.bipush 64, 2) := by decide +kernel
theorem d1_89 : decode method_2_code 89 = .ok (.iand, 1) := by decide +kernel
theorem d1_90 : decode method_2_code 90 = .ok (.ifCond .eq 9, 3) := by decide +kernel
theorem d1_93 : decode method_2_code 93 = .ok (.ldc2_w 19, 3) := by decide +kernel
theorem d1_96 : decode method_2_code 96 = .ok (.goto 4, 3) := by decide +kernel
theorem d1_99 : decode method_2_code 99 = .ok (.lconst 0, 1) := by decide +kernel
theorem d1_100 : decode method_2_code 100 = .ok (.lor, 1) := by decide +kernel
theorem d1_101 : decode method_2_code 101 = .ok (.iload_n 0, 1) := by decide +kernel
theorem d1_102 : decode method_2_code 102 = .ok (.sipush 128, 3) := by decide +kernel
theorem d1_105 : decode method_2_code 105 = .ok (.iand, 1) := by decide +kernel
theorem d1_106 : decode method_2_code 106 = .ok (.ifCond .eq 9, 3) := by decide +kernel
theorem d1_109 : decode method_2_code 109 = .ok (.ldc2_w 21, 3) := by decide +kernel
theorem d1_112 : decode method_2_code 112 = .ok (.goto 4, 3) := by decide +kernel
theorem d1_115 : decode method_2_code 115 = .ok (.lconst 0, 1) := by decide +kernel
theorem d1_116 : decode method_2_code 116 = .ok (.lor, 1) := by decide +kernel
theorem d1_117 : decode method_2_code 117 = .ok (.lreturn, 1) := by decide +kernel
theorem pn_1 : plainName "com/example/plain_tariff/plaintariff/ByteWordsDigitsPinLaw" = true := by first | (simp [plainName, overriddenIn]; done) | decide +kernel
theorem ef_1 (m : MethodId) (p0 : Int32) : entryFrame m #[(.int p0)] 1 = mkF m 0 #[.val (.int p0)] [] := by first | (simp [entryFrame, mkF, argsToLocals, Value.category]; done) | rfl
def own_rm1_room : Room := { frames := 0, cells := 0, slots := 0, locals := 0 }
def own_f1 (p0 : Int32) : Int64 := let z4 := (if (p0 &&& (1 : Int32)) = (0 : Int32) then (0 : Int64) else (255 : Int64)); let z8 := (if (p0 &&& (2 : Int32)) = (0 : Int32) then (0 : Int64) else (65280 : Int64)); let z12 := (if (p0 &&& (4 : Int32)) = (0 : Int32) then (0 : Int64) else (16711680 : Int64)); let z16 := (if (p0 &&& (8 : Int32)) = (0 : Int32) then (0 : Int64) else (4278190080 : Int64)); let z20 := (if (p0 &&& (16 : Int32)) = (0 : Int32) then (0 : Int64) else (1095216660480 : Int64)); let z24 := (if (p0 &&& (32 : Int32)) = (0 : Int32) then (0 : Int64) else (280375465082880 : Int64)); let z28 := (if (p0 &&& (64 : Int32)) = (0 : Int32) then (0 : Int64) else (71776119061217280 : Int64)); let z32 := (if (p0 &&& (128 : Int32)) = (0 : Int32) then (0 : Int64) else (-72057594037927936 : Int64)); (((((((z4 ||| z8) ||| z12) ||| z16) ||| z20) ||| z24) ||| z28) ||| z32)
theorem own_lf_own_f1_1 {p0 : Int32} {z4 : Int64} {z8 : Int64} {z12 : Int64} {z16 : Int64} {z20 : Int64} {z24 : Int64} {z28 : Int64} {z32 : Int64} (hz4 : (if (p0 &&& (1 : Int32)) = (0 : Int32) then (0 : Int64) else (255 : Int64)) = z4) (hz8 : (if (p0 &&& (2 : Int32)) = (0 : Int32) then (0 : Int64) else (65280 : Int64)) = z8) (hz12 : (if (p0 &&& (4 : Int32)) = (0 : Int32) then (0 : Int64) else (16711680 : Int64)) = z12) (hz16 : (if (p0 &&& (8 : Int32)) = (0 : Int32) then (0 : Int64) else (4278190080 : Int64)) = z16) (hz20 : (if (p0 &&& (16 : Int32)) = (0 : Int32) then (0 : Int64) else (1095216660480 : Int64)) = z20) (hz24 : (if (p0 &&& (32 : Int32)) = (0 : Int32) then (0 : Int64) else (280375465082880 : Int64)) = z24) (hz28 : (if (p0 &&& (64 : Int32)) = (0 : Int32) then (0 : Int64) else (71776119061217280 : Int64)) = z28) (hz32 : (if (p0 &&& (128 : Int32)) = (0 : Int32) then (0 : Int64) else (-72057594037927936 : Int64)) = z32) : (some (.long (((((((z4 ||| z8) ||| z12) ||| z16) ||| z20) ||| z24) ||| z28) ||| z32)) : Option Value) = some (.long (own_f1 p0)) := by
  subst hz32
  subst hz28
  subst hz24
  subst hz20
  subst hz16
  subst hz12
  subst hz8
  subst hz4
  first | rfl | (simp only [own_f1]; done) | (simp only [own_f1]; rfl)
set_option maxRecDepth 65536 in
set_option maxHeartbeats 40000000 in
theorem rm1 (l : Launch) (Z : State) (a0 : Array Value) (hw : ∀ d ∈ tables_1, d.before a0 Z = true) (ws : List Jvm.Cond) (p0 : Int32) (h0 : Heap) (n0 : Nat) (Z0 : n0 ≤ h0.size) :
    MetFree l (⟨"com/example/plain_tariff/plaintariff/ByteWordsDigitsPinLaw", "spread", "(I)J"⟩ : MethodName) (head1 (Jvm.Cond.code (⟨"com/example/plain_tariff/plaintariff/ByteWordsDigitsPinLaw", "spread", "(I)J"⟩ : MethodName) method_2_code 1 (some .long) :: ws) own_rm1_room) (fun a U => a = #[(.int p0)] ∧ Z.Warmed39 U.vm ∧ U.heap = h0) (fun _ _ _ _ _ => True) (fun _ U o U' => ∃ v L, o = .returned v ∧ own_QP (some (.long (own_f1 p0))) h0 n0 v U'.heap L ∧ FrameEnd U o U' L own_rm1_room.cells own_rm1_room.slots) := by
  refine MetFree.of_bodySF (plainFor_of_name pn_1) hisR ?_
  intro p e s m args below meth c s₁ Bd hml0 hP hK
  obtain ⟨rfl, hZ, hh⟩ := hP
  have hx := Bd.exec
  have hby := Bd.bytes
  have hml : c.maxLocals = 1 := hml0
  have hown : s.vm.findClass "com/example/plain_tariff/plaintariff/ByteWordsDigitsPinLaw" = some m.cls := findClass_of_methodNamed Bd.named
  have hnm := (name_of_methodNamed Bd.named Bd.method).1
  have hlk : meth.locks = false := BodyLoose.notSynchronized Bd
  have X0 : Stand p l e own_rm1_room s m #[(.int p0)] below meth c s₁ [] 0 0 := Stand.of_body Bd
  have e0 : s₁.heap = h0 := by rw [← hh, Bd.state]; rfl
  have N0 := Fr.nil n0
  show own_Fin p.tables e below s (own_QP (some (.long (own_f1 p0))) h0 n0) own_rm1_room.cells own_rm1_room.slots (s₁.setTop (entryFrame m #[(.int p0)] 1))
  rw [ef_1]
  show own_Fin _ _ _ _ _ _ _ (s₁.setTop (mkF m 0 #[.val (.int p0)] []))
  refine own_go (fun _ k => XS.iloadN X0.here hx rfl (hb hby d1_0) rfl k) ?_
  show own_Fin _ _ _ _ _ _ _ (s₁.setTop (mkF m 1 #[.val (.int p0)] [(.int p0)]))
  refine own_go (fun _ k => XS.iconst X0.here hx rfl (hb hby d1_1) k) ?_
  show own_Fin _ _ _ _ _ _ _ (s₁.setTop (mkF m 2 #[.val (.int p0)] [(.int (1 : Int32)), (.int p0)]))
  refine own_go (fun _ k => XS.iand X0.here hx rfl (hb hby d1_2) rfl k) ?_
  show own_Fin _ _ _ _ _ _ _ (s₁.setTop (mkF m 3 #[.val (.int p0)] [(.int (p0 &&& (1 : Int32)))]))
  have hk2 : ∀ (T' : State) (L' : List Loc), Stand p l e own_rm1_room s m #[(.int p0)] below meth c T' L' 0 0 → Fr n0 L' → T'.heap = h0 → own_Fin p.tables e below s (own_QP (some (.long (own_f1 p0))) h0 n0) own_rm1_room.cells own_rm1_room.slots (T'.setTop (mkF m 13 #[.val (.int p0)] [(.long (if (p0 &&& (1 : Int32)) = (0 : Int32) then (0 : Int64) else (255 : Int64)))])) := by
    intro T3 L3 X3 N3 e3
    generalize hz4 : (if (p0 &&& (1 : Int32)) = (0 : Int32) then (0 : Int64) else (255 : Int64)) = z4
    show own_Fin _ _ _ _ _ _ _ (T3.setTop (mkF m 13 #[.val (.int p0)] [(.long z4)]))
    refine own_go (fun _ k => XS.iloadN X3.here hx rfl (hb hby d1_13) rfl k) ?_
    show own_Fin _ _ _ _ _ _ _ (T3.setTop (mkF m 14 #[.val (.int p0)] [(.int p0), (.long z4)]))
    refine own_go (fun _ k => XS.iconst X3.here hx rfl (hb hby d1_14) k) ?_
    show own_Fin _ _ _ _ _ _ _ (T3.setTop (mkF m 15 #[.val (.int p0)] [(.int (2 : Int32)), (.int p0), (.long z4)]))
    refine own_go (fun _ k => XS.iand X3.here hx rfl (hb hby d1_15) rfl k) ?_
    show own_Fin _ _ _ _ _ _ _ (T3.setTop (mkF m 16 #[.val (.int p0)] [(.int (p0 &&& (2 : Int32))), (.long z4)]))
    have hk6 : ∀ (T' : State) (L' : List Loc), Stand p l e own_rm1_room s m #[(.int p0)] below meth c T' L' 0 0 → Fr n0 L' → T'.heap = h0 → own_Fin p.tables e below s (own_QP (some (.long (own_f1 p0))) h0 n0) own_rm1_room.cells own_rm1_room.slots (T'.setTop (mkF m 26 #[.val (.int p0)] [(.long (if (p0 &&& (2 : Int32)) = (0 : Int32) then (0 : Int64) else (65280 : Int64))), (.long z4)])) := by
      intro T7 L7 X7 N7 e7
      generalize hz8 : (if (p0 &&& (2 : Int32)) = (0 : Int32) then (0 : Int64) else (65280 : Int64)) = z8
      show own_Fin _ _ _ _ _ _ _ (T7.setTop (mkF m 26 #[.val (.int p0)] [(.long z8), (.long z4)]))
      refine own_go (fun _ k => XS.lor X7.here hx rfl (hb hby d1_26) rfl k) ?_
      show own_Fin _ _ _ _ _ _ _ (T7.setTop (mkF m 27 #[.val (.int p0)] [(.long (z4 ||| z8))]))
      refine own_go (fun _ k => XS.iloadN X7.here hx rfl (hb hby d1_27) rfl k) ?_
      show own_Fin _ _ _ _ _ _ _ (T7.setTop (mkF m 28 #[.val (.int p0)] [(.int p0), (.long (z4 ||| z8))]))
      refine own_go (fun _ k => XS.iconst X7.here hx rfl (hb hby d1_28) k) ?_
      show own_Fin _ _ _ _ _ _ _ (T7.setTop (mkF m 29 #[.val (.int p0)] [(.int (4 : Int32)), (.int p0), (.long (z4 ||| z8))]))
      refine own_go (fun _ k => XS.iand X7.here hx rfl (hb hby d1_29) rfl k) ?_
      show own_Fin _ _ _ _ _ _ _ (T7.setTop (mkF m 30 #[.val (.int p0)] [(.int (p0 &&& (4 : Int32))), (.long (z4 ||| z8))]))
      have hk10 : ∀ (T' : State) (L' : List Loc), Stand p l e own_rm1_room s m #[(.int p0)] below meth c T' L' 0 0 → Fr n0 L' → T'.heap = h0 → own_Fin p.tables e below s (own_QP (some (.long (own_f1 p0))) h0 n0) own_rm1_room.cells own_rm1_room.slots (T'.setTop (mkF m 40 #[.val (.int p0)] [(.long (if (p0 &&& (4 : Int32)) = (0 : Int32) then (0 : Int64) else (16711680 : Int64))), (.long (z4 ||| z8))])) := by
        intro T11 L11 X11 N11 e11
        generalize hz12 : (if (p0 &&& (4 : Int32)) = (0 : Int32) then (0 : Int64) else (16711680 : Int64)) = z12
        show own_Fin _ _ _ _ _ _ _ (T11.setTop (mkF m 40 #[.val (.int p0)] [(.long z12), (.long (z4 ||| z8))]))
        refine own_go (fun _ k => XS.lor X11.here hx rfl (hb hby d1_40) rfl k) ?_
        show own_Fin _ _ _ _ _ _ _ (T11.setTop (mkF m 41 #[.val (.int p0)] [(.long ((z4 ||| z8) ||| z12))]))
        refine own_go (fun _ k => XS.iloadN X11.here hx rfl (hb hby d1_41) rfl k) ?_
        show own_Fin _ _ _ _ _ _ _ (T11.setTop (mkF m 42 #[.val (.int p0)] [(.int p0), (.long ((z4 ||| z8) ||| z12))]))
        refine own_go (fun _ k => XS.bipush X11.here hx rfl (hb hby d1_42) k) ?_
        show own_Fin _ _ _ _ _ _ _ (T11.setTop (mkF m 44 #[.val (.int p0)] [(.int (8 : Int32)), (.int p0), (.long ((z4 ||| z8) ||| z12))]))
        refine own_go (fun _ k => XS.iand X11.here hx rfl (hb hby d1_44) rfl k) ?_
        show own_Fin _ _ _ _ _ _ _ (T11.setTop (mkF m 45 #[.val (.int p0)] [(.int (p0 &&& (8 : Int32))), (.long ((z4 ||| z8) ||| z12))]))
        have hk14 : ∀ (T' : State) (L' : List Loc), Stand p l e own_rm1_room s m #[(.int p0)] below meth c T' L' 0 0 → Fr n0 L' → T'.heap = h0 → own_Fin p.tables e below s (own_QP (some (.long (own_f1 p0))) h0 n0) own_rm1_room.cells own_rm1_room.slots (T'.setTop (mkF m 55 #[.val (.int p0)] [(.long (if (p0 &&& (8 : Int32)) = (0 : Int32) then (0 : Int64) else (4278190080 : Int64))), (.long ((z4 ||| z8) ||| z12))])) := by
          intro T15 L15 X15 N15 e15
          generalize hz16 : (if (p0 &&& (8 : Int32)) = (0 : Int32) then (0 : Int64) else (4278190080 : Int64)) = z16
          show own_Fin _ _ _ _ _ _ _ (T15.setTop (mkF m 55 #[.val (.int p0)] [(.long z16), (.long ((z4 ||| z8) ||| z12))]))
          refine own_go (fun _ k => XS.lor X15.here hx rfl (hb hby d1_55) rfl k) ?_
          show own_Fin _ _ _ _ _ _ _ (T15.setTop (mkF m 56 #[.val (.int p0)] [(.long (((z4 ||| z8) ||| z12) ||| z16))]))
          refine own_go (fun _ k => XS.iloadN X15.here hx rfl (hb hby d1_56) rfl k) ?_
          show own_Fin _ _ _ _ _ _ _ (T15.setTop (mkF m 57 #[.val (.int p0)] [(.int p0), (.long (((z4 ||| z8) ||| z12) ||| z16))]))
          refine own_go (fun _ k => XS.bipush X15.here hx rfl (hb hby d1_57) k) ?_
          show own_Fin _ _ _ _ _ _ _ (T15.setTop (mkF m 59 #[.val (.int p0)] [(.int (16 : Int32)), (.int p0), (.long (((z4 ||| z8) ||| z12) ||| z16))]))
          refine own_go (fun _ k => XS.iand X15.here hx rfl (hb hby d1_59) rfl k) ?_
          show own_Fin _ _ _ _ _ _ _ (T15.setTop (mkF m 60 #[.val (.int p0)] [(.int (p0 &&& (16 : Int32))), (.long (((z4 ||| z8) ||| z12) ||| z16))]))
          have hk18 : ∀ (T' : State) (L' : List Loc), Stand p l e own_rm1_room s m #[(.int p0)] below meth c T' L' 0 0 → Fr n0 L' → T'.heap = h0 → own_Fin p.tables e below s (own_QP (some (.long (own_f1 p0))) h0 n0) own_rm1_room.cells own_rm1_room.slots (T'.setTop (mkF m 70 #[.val (.int p0)] [(.long (if (p0 &&& (16 : Int32)) = (0 : Int32) then (0 : Int64) else (1095216660480 : Int64))), (.long (((z4 ||| z8) ||| z12) ||| z16))])) := by
            intro T19 L19 X19 N19 e19
            generalize hz20 : (if (p0 &&& (16 : Int32)) = (0 : Int32) then (0 : Int64) else (1095216660480 : Int64)) = z20
            show own_Fin _ _ _ _ _ _ _ (T19.setTop (mkF m 70 #[.val (.int p0)] [(.long z20), (.long (((z4 ||| z8) ||| z12) ||| z16))]))
            refine own_go (fun _ k => XS.lor X19.here hx rfl (hb hby d1_70) rfl k) ?_
            show own_Fin _ _ _ _ _ _ _ (T19.setTop (mkF m 71 #[.val (.int p0)] [(.long ((((z4 ||| z8) ||| z12) ||| z16) ||| z20))]))
            refine own_go (fun _ k => XS.iloadN X19.here hx rfl (hb hby d1_71) rfl k) ?_
            show own_Fin _ _ _ _ _ _ _ (T19.setTop (mkF m 72 #[.val (.int p0)] [(.int p0), (.long ((((z4 ||| z8) ||| z12) ||| z16) ||| z20))]))
            refine own_go (fun _ k => XS.bipush X19.here hx rfl (hb hby d1_72) k) ?_
            show own_Fin _ _ _ _ _ _ _ (T19.setTop (mkF m 74 #[.val (.int p0)] [(.int (32 : Int32)), (.int p0), (.long ((((z4 ||| z8) ||| z12) ||| z16) ||| z20))]))
            refine own_go (fun _ k => XS.iand X19.here hx rfl (hb hby d1_74) rfl k) ?_
            show own_Fin _ _ _ _ _ _ _ (T19.setTop (mkF m 75 #[.val (.int p0)] [(.int (p0 &&& (32 : Int32))), (.long ((((z4 ||| z8) ||| z12) ||| z16) ||| z20))]))
            have hk22 : ∀ (T' : State) (L' : List Loc), Stand p l e own_rm1_room s m #[(.int p0)] below meth c T' L' 0 0 → Fr n0 L' → T'.heap = h0 → own_Fin p.tables e below s (own_QP (some (.long (own_f1 p0))) h0 n0) own_rm1_room.cells own_rm1_room.slots (T'.setTop (mkF m 85 #[.val (.int p0)] [(.long (if (p0 &&& (32 : Int32)) = (0 : Int32) then (0 : Int64) else (280375465082880 : Int64))), (.long ((((z4 ||| z8) ||| z12) ||| z16) ||| z20))])) := by
              intro T23 L23 X23 N23 e23
              generalize hz24 : (if (p0 &&& (32 : Int32)) = (0 : Int32) then (0 : Int64) else (280375465082880 : Int64)) = z24
              show own_Fin _ _ _ _ _ _ _ (T23.setTop (mkF m 85 #[.val (.int p0)] [(.long z24), (.long ((((z4 ||| z8) ||| z12) ||| z16) ||| z20))]))
              refine own_go (fun _ k => XS.lor X23.here hx rfl (hb hby d1_85) rfl k) ?_
              show own_Fin _ _ _ _ _ _ _ (T23.setTop (mkF m 86 #[.val (.int p0)] [(.long (((((z4 ||| z8) ||| z12) ||| z16) ||| z20) ||| z24))]))
              refine own_go (fun _ k => XS.iloadN X23.here hx rfl (hb hby d1_86) rfl k) ?_
              show own_Fin _ _ _ _ _ _ _ (T23.setTop (mkF m 87 #[.val (.int p0)] [(.int p0), (.long (((((z4 ||| z8) ||| z12) ||| z16) ||| z20) ||| z24))]))
              refine own_go (fun _ k => XS.bipush X23.here hx rfl (hb hby d1_87) k) ?_
              show own_Fin _ _ _ _ _ _ _ (T23.setTop (mkF m 89 #[.val (.int p0)] [(.int (64 : Int32)), (.int p0), (.long (((((z4 ||| z8) ||| z12) ||| z16) ||| z20) ||| z24))]))
              refine own_go (fun _ k => XS.iand X23.here hx rfl (hb hby d1_89) rfl k) ?_
              show own_Fin _ _ _ _ _ _ _ (T23.setTop (mkF m 90 #[.val (.int p0)] [(.int (p0 &&& (64 : Int32))), (.long (((((z4 ||| z8) ||| z12) ||| z16) ||| z20) ||| z24))]))
              have hk26 : ∀ (T' : State) (L' : List Loc), Stand p l e own_rm1_room s m #[(.int p0)] below meth c T' L' 0 0 → Fr n0 L' → T'.heap = h0 → own_Fin p.tables e below s (own_QP (some (.long (own_f1 p0))) h0 n0) own_rm1_room.cells own_rm1_room.slots (T'.setTop (mkF m 100 #[.val (.int p0)] [(.long (if (p0 &&& (64 : Int32)) = (0 : Int32) then (0 : Int64) else (71776119061217280 : Int64))), (.long (((((z4 ||| z8) ||| z12) ||| z16) ||| z20) ||| z24))])) := by
                intro T27 L27 X27 N27 e27
                generalize hz28 : (if (p0 &&& (64 : Int32)) = (0 : Int32) then (0 : Int64) else (71776119061217280 : Int64)) = z28
                show own_Fin _ _ _ _ _ _ _ (T27.setTop (mkF m 100 #[.val (.int p0)] [(.long z28), (.long (((((z4 ||| z8) ||| z12) ||| z16) ||| z20) ||| z24))]))
                refine own_go (fun _ k => XS.lor X27.here hx rfl (hb hby d1_100) rfl k) ?_
                show own_Fin _ _ _ _ _ _ _ (T27.setTop (mkF m 101 #[.val (.int p0)] [(.long ((((((z4 ||| z8) ||| z12) ||| z16) ||| z20) ||| z24) ||| z28))]))
                refine own_go (fun _ k => XS.iloadN X27.here hx rfl (hb hby d1_101) rfl k) ?_
                show own_Fin _ _ _ _ _ _ _ (T27.setTop (mkF m 102 #[.val (.int p0)] [(.int p0), (.long ((((((z4 ||| z8) ||| z12) ||| z16) ||| z20) ||| z24) ||| z28))]))
                refine own_go (fun _ k => XS.sipush X27.here hx rfl (hb hby d1_102) k) ?_
                show own_Fin _ _ _ _ _ _ _ (T27.setTop (mkF m 105 #[.val (.int p0)] [(.int (128 : Int32)), (.int p0), (.long ((((((z4 ||| z8) ||| z12) ||| z16) ||| z20) ||| z24) ||| z28))]))
                refine own_go (fun _ k => XS.iand X27.here hx rfl (hb hby d1_105) rfl k) ?_
                show own_Fin _ _ _ _ _ _ _ (T27.setTop (mkF m 106 #[.val (.int p0)] [(.int (p0 &&& (128 : Int32))), (.long ((((((z4 ||| z8) ||| z12) ||| z16) ||| z20) ||| z24) ||| z28))]))
                have hk30 : ∀ (T' : State) (L' : List Loc), Stand p l e own_rm1_room s m #[(.int p0)] below meth c T' L' 0 0 → Fr n0 L' → T'.heap = h0 → own_Fin p.tables e below s (own_QP (some (.long (own_f1 p0))) h0 n0) own_rm1_room.cells own_rm1_room.slots (T'.setTop (mkF m 116 #[.val (.int p0)] [(.long (if (p0 &&& (128 : Int32)) = (0 : Int32) then (0 : Int64) else (-72057594037927936 : Int64))), (.long ((((((z4 ||| z8) ||| z12) ||| z16) ||| z20) ||| z24) ||| z28))])) := by
                  intro T31 L31 X31 N31 e31
                  generalize hz32 : (if (p0 &&& (128 : Int32)) = (0 : Int32) then (0 : Int64) else (-72057594037927936 : Int64)) = z32
                  show own_Fin _ _ _ _ _ _ _ (T31.setTop (mkF m 116 #[.val (.int p0)] [(.long z32), (.long ((((((z4 ||| z8) ||| z12) ||| z16) ||| z20) ||| z24) ||| z28))]))
                  refine own_go (fun _ k => XS.lor X31.here hx rfl (hb hby d1_116) rfl k) ?_
                  show own_Fin _ _ _ _ _ _ _ (T31.setTop (mkF m 117 #[.val (.int p0)] [(.long (((((((z4 ||| z8) ||| z12) ||| z16) ||| z20) ||| z24) ||| z28) ||| z32))]))
                  refine own_ret X31 hx hlk Bd.returns rfl (Or.inr (Or.inl ⟨rfl, rfl, _, rfl⟩)) (hb hby d1_117) (Nat.le_of_ble_eq_true rfl) (Nat.le_of_ble_eq_true rfl) ?_
                  exact ⟨(own_lf_own_f1_1 (p0 := p0) hz4 hz8 hz12 hz16 hz20 hz24 hz28 hz32), N31, e31⟩
                by_cases hc29 : (p0 &&& (128 : Int32)) = (0 : Int32)
                · refine own_go (fun _ k => XS.ifYes X27.here hx rfl (pc0 := 106) (pc' := 115) rfl (hb hby d1_106) rfl ((if0 _ _).trans (teq hc29).1) (by decide) (by decide) k) ?_
                  show own_Fin _ _ _ _ _ _ _ (T27.setTop (mkF m 115 #[.val (.int p0)] [(.long ((((((z4 ||| z8) ||| z12) ||| z16) ||| z20) ||| z24) ||| z28))]))
                  refine own_go (fun _ k => XS.lconst X27.here hx rfl (hb hby d1_115) k) ?_
                  show own_Fin _ _ _ _ _ _ _ (T27.setTop (mkF m 116 #[.val (.int p0)] [(.long (0 : Int64)), (.long ((((((z4 ||| z8) ||| z12) ||| z16) ||| z20) ||| z24) ||| z28))]))
                  have kj := hk30 T27 _ (own_mono X27 (by decide) (by decide)) N27 e27
                  simpa only [if_pos hc29] using kj
                · refine own_go (fun _ k => XS.ifNo X27.here hx rfl (hb hby d1_106) rfl ((if0 _ _).trans (feq hc29).1) k) ?_
                  show own_Fin _ _ _ _ _ _ _ (T27.setTop (mkF m 109 #[.val (.int p0)] [(.long ((((((z4 ||| z8) ||| z12) ||| z16) ||| z20) ||| z24) ||| z28))]))
                  refine own_go (fun _ k => X27.ldc2Long hx hown (mvT hZ (hw _ (List.mem_of_getElem? (i := 31) rfl))) (g := (mkF m 109 #[.val (.int p0)] [(.long ((((((z4 ||| z8) ||| z12) ||| z16) ||| z20) ||| z24) ||| z28))])) rfl (hb hby d1_109) _ k) ?_
                  show own_Fin _ _ _ _ _ _ _ (T27.setTop (mkF m 112 #[.val (.int p0)] [(.long (-72057594037927936 : Int64)), (.long ((((((z4 ||| z8) ||| z12) ||| z16) ||| z20) ||| z24) ||| z28))]))
                  refine own_go (fun _ k => XS.goto X27.here hx rfl (pc0 := 112) (pc' := 116) rfl (hb hby d1_112) (by decide) (by decide) k) ?_
                  show own_Fin _ _ _ _ _ _ _ (T27.setTop (mkF m 116 #[.val (.int p0)] [(.long (-72057594037927936 : Int64)), (.long ((((((z4 ||| z8) ||| z12) ||| z16) ||| z20) ||| z24) ||| z28))]))
                  have kj := hk30 T27 _ (own_mono X27 (by decide) (by decide)) N27 e27
                  simpa only [if_neg hc29] using kj
              by_cases hc25 : (p0 &&& (64 : Int32)) = (0 : Int32)
              · refine own_go (fun _ k => XS.ifYes X23.here hx rfl (pc0 := 90) (pc' := 99) rfl (hb hby d1_90) rfl ((if0 _ _).trans (teq hc25).1) (by decide) (by decide) k) ?_
                show own_Fin _ _ _ _ _ _ _ (T23.setTop (mkF m 99 #[.val (.int p0)] [(.long (((((z4 ||| z8) ||| z12) ||| z16) ||| z20) ||| z24))]))
                refine own_go (fun _ k => XS.lconst X23.here hx rfl (hb hby d1_99) k) ?_
                show own_Fin _ _ _ _ _ _ _ (T23.setTop (mkF m 100 #[.val (.int p0)] [(.long (0 : Int64)), (.long (((((z4 ||| z8) ||| z12) ||| z16) ||| z20) ||| z24))]))
                have kj := hk26 T23 _ (own_mono X23 (by decide) (by decide)) N23 e23
                simpa only [if_pos hc25] using kj
              · refine own_go (fun _ k => XS.ifNo X23.here hx rfl (hb hby d1_90) rfl ((if0 _ _).trans (feq hc25).1) k) ?_
                show own_Fin _ _ _ _ _ _ _ (T23.setTop (mkF m 93 #[.val (.int p0)] [(.long (((((z4 ||| z8) ||| z12) ||| z16) ||| z20) ||| z24))]))
                refine own_go (fun _ k => X23.ldc2Long hx hown (mvT hZ (hw _ (List.mem_of_getElem? (i := 33) rfl))) (g := (mkF m 93 #[.val (.int p0)] [(.long (((((z4 ||| z8) ||| z12) ||| z16) ||| z20) ||| z24))])) rfl (hb hby d1_93) _ k) ?_
                show own_Fin _ _ _ _ _ _ _ (T23.setTop (mkF m 96 #[.val (.int p0)] [(.long (71776119061217280 : Int64)), (.long (((((z4 ||| z8) ||| z12) ||| z16) ||| z20) ||| z24))]))
                refine own_go (fun _ k => XS.goto X23.here hx rfl (pc0 := 96) (pc' := 100) rfl (hb hby d1_96) (by decide) (by decide) k) ?_
                show own_Fin _ _ _ _ _ _ _ (T23.setTop (mkF m 100 #[.val (.int p0)] [(.long (71776119061217280 : Int64)), (.long (((((z4 ||| z8) ||| z12) ||| z16) ||| z20) ||| z24))]))
                have kj := hk26 T23 _ (own_mono X23 (by decide) (by decide)) N23 e23
                simpa only [if_neg hc25] using kj
            by_cases hc21 : (p0 &&& (32 : Int32)) = (0 : Int32)
            · refine own_go (fun _ k => XS.ifYes X19.here hx rfl (pc0 := 75) (pc' := 84) rfl (hb hby d1_75) rfl ((if0 _ _).trans (teq hc21).1) (by decide) (by decide) k) ?_
              show own_Fin _ _ _ _ _ _ _ (T19.setTop (mkF m 84 #[.val (.int p0)] [(.long ((((z4 ||| z8) ||| z12) ||| z16) ||| z20))]))
              refine own_go (fun _ k => XS.lconst X19.here hx rfl (hb hby d1_84) k) ?_
              show own_Fin _ _ _ _ _ _ _ (T19.setTop (mkF m 85 #[.val (.int p0)] [(.long (0 : Int64)), (.long ((((z4 ||| z8) ||| z12) ||| z16) ||| z20))]))
              have kj := hk22 T19 _ (own_mono X19 (by decide) (by decide)) N19 e19
              simpa only [if_pos hc21] using kj
            · refine own_go (fun _ k => XS.ifNo X19.here hx rfl (hb hby d1_75) rfl ((if0 _ _).trans (feq hc21).1) k) ?_
              show own_Fin _ _ _ _ _ _ _ (T19.setTop (mkF m 78 #[.val (.int p0)] [(.long ((((z4 ||| z8) ||| z12) ||| z16) ||| z20))]))
              refine own_go (fun _ k => X19.ldc2Long hx hown (mvT hZ (hw _ (List.mem_of_getElem? (i := 30) rfl))) (g := (mkF m 78 #[.val (.int p0)] [(.long ((((z4 ||| z8) ||| z12) ||| z16) ||| z20))])) rfl (hb hby d1_78) _ k) ?_
              show own_Fin _ _ _ _ _ _ _ (T19.setTop (mkF m 81 #[.val (.int p0)] [(.long (280375465082880 : Int64)), (.long ((((z4 ||| z8) ||| z12) ||| z16) ||| z20))]))
              refine own_go (fun _ k => XS.goto X19.here hx rfl (pc0 := 81) (pc' := 85) rfl (hb hby d1_81) (by decide) (by decide) k) ?_
              show own_Fin _ _ _ _ _ _ _ (T19.setTop (mkF m 85 #[.val (.int p0)] [(.long (280375465082880 : Int64)), (.long ((((z4 ||| z8) ||| z12) ||| z16) ||| z20))]))
              have kj := hk22 T19 _ (own_mono X19 (by decide) (by decide)) N19 e19
              simpa only [if_neg hc21] using kj
          by_cases hc17 : (p0 &&& (16 : Int32)) = (0 : Int32)
          · refine own_go (fun _ k => XS.ifYes X15.here hx rfl (pc0 := 60) (pc' := 69) rfl (hb hby d1_60) rfl ((if0 _ _).trans (teq hc17).1) (by decide) (by decide) k) ?_
            show own_Fin _ _ _ _ _ _ _ (T15.setTop (mkF m 69 #[.val (.int p0)] [(.long (((z4 ||| z8) ||| z12) ||| z16))]))
            refine own_go (fun _ k => XS.lconst X15.here hx rfl (hb hby d1_69) k) ?_
            show own_Fin _ _ _ _ _ _ _ (T15.setTop (mkF m 70 #[.val (.int p0)] [(.long (0 : Int64)), (.long (((z4 ||| z8) ||| z12) ||| z16))]))
            have kj := hk18 T15 _ (own_mono X15 (by decide) (by decide)) N15 e15
            simpa only [if_pos hc17] using kj
          · refine own_go (fun _ k => XS.ifNo X15.here hx rfl (hb hby d1_60) rfl ((if0 _ _).trans (feq hc17).1) k) ?_
            show own_Fin _ _ _ _ _ _ _ (T15.setTop (mkF m 63 #[.val (.int p0)] [(.long (((z4 ||| z8) ||| z12) ||| z16))]))
            refine own_go (fun _ k => X15.ldc2Long hx hown (mvT hZ (hw _ (List.mem_of_getElem? (i := 29) rfl))) (g := (mkF m 63 #[.val (.int p0)] [(.long (((z4 ||| z8) ||| z12) ||| z16))])) rfl (hb hby d1_63) _ k) ?_
            show own_Fin _ _ _ _ _ _ _ (T15.setTop (mkF m 66 #[.val (.int p0)] [(.long (1095216660480 : Int64)), (.long (((z4 ||| z8) ||| z12) ||| z16))]))
            refine own_go (fun _ k => XS.goto X15.here hx rfl (pc0 := 66) (pc' := 70) rfl (hb hby d1_66) (by decide) (by decide) k) ?_
            show own_Fin _ _ _ _ _ _ _ (T15.setTop (mkF m 70 #[.val (.int p0)] [(.long (1095216660480 : Int64)), (.long (((z4 ||| z8) ||| z12) ||| z16))]))
            have kj := hk18 T15 _ (own_mono X15 (by decide) (by decide)) N15 e15
            simpa only [if_neg hc17] using kj
        by_cases hc13 : (p0 &&& (8 : Int32)) = (0 : Int32)
        · refine own_go (fun _ k => XS.ifYes X11.here hx rfl (pc0 := 45) (pc' := 54) rfl (hb hby d1_45) rfl ((if0 _ _).trans (teq hc13).1) (by decide) (by decide) k) ?_
          show own_Fin _ _ _ _ _ _ _ (T11.setTop (mkF m 54 #[.val (.int p0)] [(.long ((z4 ||| z8) ||| z12))]))
          refine own_go (fun _ k => XS.lconst X11.here hx rfl (hb hby d1_54) k) ?_
          show own_Fin _ _ _ _ _ _ _ (T11.setTop (mkF m 55 #[.val (.int p0)] [(.long (0 : Int64)), (.long ((z4 ||| z8) ||| z12))]))
          have kj := hk14 T11 _ (own_mono X11 (by decide) (by decide)) N11 e11
          simpa only [if_pos hc13] using kj
        · refine own_go (fun _ k => XS.ifNo X11.here hx rfl (hb hby d1_45) rfl ((if0 _ _).trans (feq hc13).1) k) ?_
          show own_Fin _ _ _ _ _ _ _ (T11.setTop (mkF m 48 #[.val (.int p0)] [(.long ((z4 ||| z8) ||| z12))]))
          refine own_go (fun _ k => X11.ldc2Long hx hown (mvT hZ (hw _ (List.mem_of_getElem? (i := 27) rfl))) (g := (mkF m 48 #[.val (.int p0)] [(.long ((z4 ||| z8) ||| z12))])) rfl (hb hby d1_48) _ k) ?_
          show own_Fin _ _ _ _ _ _ _ (T11.setTop (mkF m 51 #[.val (.int p0)] [(.long (4278190080 : Int64)), (.long ((z4 ||| z8) ||| z12))]))
          refine own_go (fun _ k => XS.goto X11.here hx rfl (pc0 := 51) (pc' := 55) rfl (hb hby d1_51) (by decide) (by decide) k) ?_
          show own_Fin _ _ _ _ _ _ _ (T11.setTop (mkF m 55 #[.val (.int p0)] [(.long (4278190080 : Int64)), (.long ((z4 ||| z8) ||| z12))]))
          have kj := hk14 T11 _ (own_mono X11 (by decide) (by decide)) N11 e11
          simpa only [if_neg hc13] using kj
      by_cases hc9 : (p0 &&& (4 : Int32)) = (0 : Int32)
      · refine own_go (fun _ k => XS.ifYes X7.here hx rfl (pc0 := 30) (pc' := 39) rfl (hb hby d1_30) rfl ((if0 _ _).trans (teq hc9).1) (by decide) (by decide) k) ?_
        show own_Fin _ _ _ _ _ _ _ (T7.setTop (mkF m 39 #[.val (.int p0)] [(.long (z4 ||| z8))]))
        refine own_go (fun _ k => XS.lconst X7.here hx rfl (hb hby d1_39) k) ?_
        show own_Fin _ _ _ _ _ _ _ (T7.setTop (mkF m 40 #[.val (.int p0)] [(.long (0 : Int64)), (.long (z4 ||| z8))]))
        have kj := hk10 T7 _ (own_mono X7 (by decide) (by decide)) N7 e7
        simpa only [if_pos hc9] using kj
      · refine own_go (fun _ k => XS.ifNo X7.here hx rfl (hb hby d1_30) rfl ((if0 _ _).trans (feq hc9).1) k) ?_
        show own_Fin _ _ _ _ _ _ _ (T7.setTop (mkF m 33 #[.val (.int p0)] [(.long (z4 ||| z8))]))
        refine own_go (fun _ k => X7.ldc2Long hx hown (mvT hZ (hw _ (List.mem_of_getElem? (i := 28) rfl))) (g := (mkF m 33 #[.val (.int p0)] [(.long (z4 ||| z8))])) rfl (hb hby d1_33) _ k) ?_
        show own_Fin _ _ _ _ _ _ _ (T7.setTop (mkF m 36 #[.val (.int p0)] [(.long (16711680 : Int64)), (.long (z4 ||| z8))]))
        refine own_go (fun _ k => XS.goto X7.here hx rfl (pc0 := 36) (pc' := 40) rfl (hb hby d1_36) (by decide) (by decide) k) ?_
        show own_Fin _ _ _ _ _ _ _ (T7.setTop (mkF m 40 #[.val (.int p0)] [(.long (16711680 : Int64)), (.long (z4 ||| z8))]))
        have kj := hk10 T7 _ (own_mono X7 (by decide) (by decide)) N7 e7
        simpa only [if_neg hc9] using kj
    by_cases hc5 : (p0 &&& (2 : Int32)) = (0 : Int32)
    · refine own_go (fun _ k => XS.ifYes X3.here hx rfl (pc0 := 16) (pc' := 25) rfl (hb hby d1_16) rfl ((if0 _ _).trans (teq hc5).1) (by decide) (by decide) k) ?_
      show own_Fin _ _ _ _ _ _ _ (T3.setTop (mkF m 25 #[.val (.int p0)] [(.long z4)]))
      refine own_go (fun _ k => XS.lconst X3.here hx rfl (hb hby d1_25) k) ?_
      show own_Fin _ _ _ _ _ _ _ (T3.setTop (mkF m 26 #[.val (.int p0)] [(.long (0 : Int64)), (.long z4)]))
      have kj := hk6 T3 _ (own_mono X3 (by decide) (by decide)) N3 e3
      simpa only [if_pos hc5] using kj
    · refine own_go (fun _ k => XS.ifNo X3.here hx rfl (hb hby d1_16) rfl ((if0 _ _).trans (feq hc5).1) k) ?_
      show own_Fin _ _ _ _ _ _ _ (T3.setTop (mkF m 19 #[.val (.int p0)] [(.long z4)]))
      refine own_go (fun _ k => X3.ldc2Long hx hown (mvT hZ (hw _ (List.mem_of_getElem? (i := 12) rfl))) (g := (mkF m 19 #[.val (.int p0)] [(.long z4)])) rfl (hb hby d1_19) _ k) ?_
      show own_Fin _ _ _ _ _ _ _ (T3.setTop (mkF m 22 #[.val (.int p0)] [(.long (65280 : Int64)), (.long z4)]))
      refine own_go (fun _ k => XS.goto X3.here hx rfl (pc0 := 22) (pc' := 26) rfl (hb hby d1_22) (by decide) (by decide) k) ?_
      show own_Fin _ _ _ _ _ _ _ (T3.setTop (mkF m 26 #[.val (.int p0)] [(.long (65280 : Int64)), (.long z4)]))
      have kj := hk6 T3 _ (own_mono X3 (by decide) (by decide)) N3 e3
      simpa only [if_neg hc5] using kj
  by_cases hc1 : (p0 &&& (1 : Int32)) = (0 : Int32)
  · refine own_go (fun _ k => XS.ifYes X0.here hx rfl (pc0 := 3) (pc' := 12) rfl (hb hby d1_3) rfl ((if0 _ _).trans (teq hc1).1) (by decide) (by decide) k) ?_
    show own_Fin _ _ _ _ _ _ _ (s₁.setTop (mkF m 12 #[.val (.int p0)] []))
    refine own_go (fun _ k => XS.lconst X0.here hx rfl (hb hby d1_12) k) ?_
    show own_Fin _ _ _ _ _ _ _ (s₁.setTop (mkF m 13 #[.val (.int p0)] [(.long (0 : Int64))]))
    have kj := hk2 s₁ _ (own_mono X0 (by decide) (by decide)) N0 e0
    simpa only [if_pos hc1] using kj
  · refine own_go (fun _ k => XS.ifNo X0.here hx rfl (hb hby d1_3) rfl ((if0 _ _).trans (feq hc1).1) k) ?_
    show own_Fin _ _ _ _ _ _ _ (s₁.setTop (mkF m 6 #[.val (.int p0)] []))
    refine own_go (fun _ k => X0.ldc2Long hx hown (mvT hZ (hw _ (List.mem_of_getElem? (i := 10) rfl))) (g := (mkF m 6 #[.val (.int p0)] [])) rfl (hb hby d1_6) _ k) ?_
    show own_Fin _ _ _ _ _ _ _ (s₁.setTop (mkF m 9 #[.val (.int p0)] [(.long (255 : Int64))]))
    refine own_go (fun _ k => XS.goto X0.here hx rfl (pc0 := 9) (pc' := 13) rfl (hb hby d1_9) (by decide) (by decide) k) ?_
    show own_Fin _ _ _ _ _ _ _ (s₁.setTop (mkF m 13 #[.val (.int p0)] [(.long (255 : Int64))]))
    have kj := hk2 s₁ _ (own_mono X0 (by decide) (by decide)) N0 e0
    simpa only [if_neg hc1] using kj
theorem d3_0 : decode method_3_code 0 = .ok (.lload_n 0, 1) := by decide +kernel
theorem d3_1 : decode method_3_code 1 = .ok (.bipush 8, 2) := by decide +kernel
theorem d3_3 : decode method_3_code 3 = .ok (.iload_n 2, 1) := by decide +kernel
theorem d3_4 : decode method_3_code 4 = .ok (.imul, 1) := by decide +kernel
theorem d3_5 : decode method_3_code 5 = .ok (.lushr, 1) := by decide +kernel
theorem d3_6 : decode method_3_code 6 = .ok (.ldc2_w 7, 3) := by decide +kernel
theorem d3_9 : decode method_3_code 9 = .ok (.land, 1) := by decide +kernel
theorem d3_10 : decode method_3_code 10 = .ok (.l2i, 1) := by decide +kernel
theorem d3_11 : decode method_3_code 11 = .ok (.istore_n 3, 1) := by decide +kernel
theorem d3_12 : decode method_3_code 12 = .ok (.bipush 48, 2) := by decide +kernel
theorem d3_14 : decode method_3_code 14 = .ok (.iload_n 3, 1) := by decide +kernel
theorem d3_15 : decode method_3_code 15 = .ok (.bipush 10, 2) := by decide +kernel
theorem d3_17 : decode method_3_code 17 = .ok (.irem, 1) := by decide +kernel
theorem d3_18 : decode method_3_code 18 = .ok (.iadd, 1) := by decide +kernel
theorem d3_19 : decode method_3_code 19 = .ok (.i2l, 1) := by decide +kernel
theorem d3_20 : decode method_3_code 20 = .ok (.bipush 8, 2) := by decide +kernel
theorem d3_22 : decode method_3_code 22 = .ok (.iload_n 2, 1) := by decide +kernel
theorem d3_23 : decode method_3_code 23 = .ok (.imul, 1) := by decide +kernel
theorem d3_24 : decode method_3_code 24 = .ok (.lshl, 1) := by decide +kernel
theorem d3_25 : decode method_3_code 25 = .ok (.lreturn, 1) := by decide +kernel
theorem pn_3 : plainName "com/example/plain_tariff/plaintariff/ByteWordsDigitsPinLaw" = true := by first | (simp [plainName, overriddenIn]; done) | decide +kernel
theorem ef_3 (m : MethodId) (q0 : Int64) (p1 : Int32) : entryFrame m #[(.long q0), (.int p1)] 4 = mkF m 0 #[.val (.long q0), .second, .val (.int p1), .unset] [] := by first | (simp [entryFrame, mkF, argsToLocals, Value.category]; done) | rfl
def own_rm3_room : Room := { frames := 0, cells := 0, slots := 0, locals := 0 }
def own_f3 (q0 : Int64) (p1 : Int32) : Int64 := let z1 := (((own_lushr q0 ((8 : Int32) * p1)) &&& (255 : Int64)).toInt32); (own_lshl (((48 : Int32) + (z1 % (10 : Int32))).toInt64) ((8 : Int32) * p1))
theorem own_lf_own_f3_1 {q0 : Int64} {p1 : Int32} {z1 : Int32} (hz1 : (((own_lushr q0 ((8 : Int32) * p1)) &&& (255 : Int64)).toInt32) = z1) : (some (.long (own_lshl (((48 : Int32) + (z1 % (10 : Int32))).toInt64) ((8 : Int32) * p1))) : Option Value) = some (.long (own_f3 q0 p1)) := by
  subst hz1
  first | rfl | (simp only [own_f3]; done) | (simp only [own_f3]; rfl)
set_option maxRecDepth 65536 in
set_option maxHeartbeats 40000000 in
theorem rm3 (l : Launch) (Z : State) (a0 : Array Value) (hw : ∀ d ∈ tables_1, d.before a0 Z = true) (ws : List Jvm.Cond) (q0 : Int64) (p1 : Int32) (h0 : Heap) (n0 : Nat) (Z0 : n0 ≤ h0.size) :
    MetFree l (⟨"com/example/plain_tariff/plaintariff/ByteWordsDigitsPinLaw", "digitByte", "(JI)J"⟩ : MethodName) (head1 (Jvm.Cond.code (⟨"com/example/plain_tariff/plaintariff/ByteWordsDigitsPinLaw", "digitByte", "(JI)J"⟩ : MethodName) method_3_code 4 (some .long) :: ws) own_rm3_room) (fun a U => a = #[(.long q0), (.int p1)] ∧ Z.Warmed39 U.vm ∧ U.heap = h0) (fun _ _ _ _ _ => True) (fun _ U o U' => ∃ v L, o = .returned v ∧ own_QP (some (.long (own_f3 q0 p1))) h0 n0 v U'.heap L ∧ FrameEnd U o U' L own_rm3_room.cells own_rm3_room.slots) := by
  refine MetFree.of_bodySF (plainFor_of_name pn_3) hisR ?_
  intro p e s m args below meth c s₁ Bd hml0 hP hK
  obtain ⟨rfl, hZ, hh⟩ := hP
  have hx := Bd.exec
  have hby := Bd.bytes
  have hml : c.maxLocals = 4 := hml0
  have hown : s.vm.findClass "com/example/plain_tariff/plaintariff/ByteWordsDigitsPinLaw" = some m.cls := findClass_of_methodNamed Bd.named
  have hnm := (name_of_methodNamed Bd.named Bd.method).1
  have hlk : meth.locks = false := BodyLoose.notSynchronized Bd
  have X0 : Stand p l e own_rm3_room s m #[(.long q0), (.int p1)] below meth c s₁ [] 0 0 := Stand.of_body Bd
  have e0 : s₁.heap = h0 := by rw [← hh, Bd.state]; rfl
  have N0 := Fr.nil n0
  show own_Fin p.tables e below s (own_QP (some (.long (own_f3 q0 p1))) h0 n0) own_rm3_room.cells own_rm3_room.slots (s₁.setTop (entryFrame m #[(.long q0), (.int p1)] 4))
  rw [ef_3]
  show own_Fin _ _ _ _ _ _ _ (s₁.setTop (mkF m 0 #[.val (.long q0), .second, .val (.int p1), .unset] []))
  refine own_go (fun _ k => XS.lloadN X0.here hx rfl (hb hby d3_0) rfl k) ?_
  show own_Fin _ _ _ _ _ _ _ (s₁.setTop (mkF m 1 #[.val (.long q0), .second, .val (.int p1), .unset] [(.long q0)]))
  refine own_go (fun _ k => XS.bipush X0.here hx rfl (hb hby d3_1) k) ?_
  show own_Fin _ _ _ _ _ _ _ (s₁.setTop (mkF m 3 #[.val (.long q0), .second, .val (.int p1), .unset] [(.int (8 : Int32)), (.long q0)]))
  refine own_go (fun _ k => XS.iloadN X0.here hx rfl (hb hby d3_3) rfl k) ?_
  show own_Fin _ _ _ _ _ _ _ (s₁.setTop (mkF m 4 #[.val (.long q0), .second, .val (.int p1), .unset] [(.int p1), (.int (8 : Int32)), (.long q0)]))
  refine own_go (fun _ k => XS.imul X0.here hx rfl (hb hby d3_4) rfl k) ?_
  show own_Fin _ _ _ _ _ _ _ (s₁.setTop (mkF m 5 #[.val (.long q0), .second, .val (.int p1), .unset] [(.int ((8 : Int32) * p1)), (.long q0)]))
  refine own_go (fun _ k => XS.lushr X0.here hx rfl (hb hby d3_5) rfl k) ?_
  show own_Fin _ _ _ _ _ _ _ (s₁.setTop (mkF m 6 #[.val (.long q0), .second, .val (.int p1), .unset] [(.long (own_lushr q0 ((8 : Int32) * p1)))]))
  refine own_go (fun _ k => X0.ldc2Long hx hown (mvT hZ (hw _ (List.mem_of_getElem? (i := 10) rfl))) (g := (mkF m 6 #[.val (.long q0), .second, .val (.int p1), .unset] [(.long (own_lushr q0 ((8 : Int32) * p1)))])) rfl (hb hby d3_6) _ k) ?_
  show own_Fin _ _ _ _ _ _ _ (s₁.setTop (mkF m 9 #[.val (.long q0), .second, .val (.int p1), .unset] [(.long (255 : Int64)), (.long (own_lushr q0 ((8 : Int32) * p1)))]))
  refine own_go (fun _ k => XS.land X0.here hx rfl (hb hby d3_9) rfl k) ?_
  show own_Fin _ _ _ _ _ _ _ (s₁.setTop (mkF m 10 #[.val (.long q0), .second, .val (.int p1), .unset] [(.long ((own_lushr q0 ((8 : Int32) * p1)) &&& (255 : Int64)))]))
  refine own_go (fun _ k => XS.l2i X0.here hx rfl (hb hby d3_10) rfl k) ?_
  show own_Fin _ _ _ _ _ _ _ (s₁.setTop (mkF m 11 #[.val (.long q0), .second, .val (.int p1), .unset] [(.int (((own_lushr q0 ((8 : Int32) * p1)) &&& (255 : Int64)).toInt32))]))
  refine own_go (fun _ k => XS.istoreN X0.here hx rfl (hb hby d3_11) rfl (l' := #[.val (.long q0), .second, .val (.int p1), .val (.int (((own_lushr q0 ((8 : Int32) * p1)) &&& (255 : Int64)).toInt32))]) rfl k) ?_
  show own_Fin _ _ _ _ _ _ _ (s₁.setTop (mkF m 12 #[.val (.long q0), .second, .val (.int p1), .val (.int (((own_lushr q0 ((8 : Int32) * p1)) &&& (255 : Int64)).toInt32))] []))
  generalize hz1 : (((own_lushr q0 ((8 : Int32) * p1)) &&& (255 : Int64)).toInt32) = z1
  show own_Fin _ _ _ _ _ _ _ (s₁.setTop (mkF m 12 #[.val (.long q0), .second, .val (.int p1), .val (.int z1)] []))
  refine own_go (fun _ k => XS.bipush X0.here hx rfl (hb hby d3_12) k) ?_
  show own_Fin _ _ _ _ _ _ _ (s₁.setTop (mkF m 14 #[.val (.long q0), .second, .val (.int p1), .val (.int z1)] [(.int (48 : Int32))]))
  refine own_go (fun _ k => XS.iloadN X0.here hx rfl (hb hby d3_14) rfl k) ?_
  show own_Fin _ _ _ _ _ _ _ (s₁.setTop (mkF m 15 #[.val (.long q0), .second, .val (.int p1), .val (.int z1)] [(.int z1), (.int (48 : Int32))]))
  refine own_go (fun _ k => XS.bipush X0.here hx rfl (hb hby d3_15) k) ?_
  show own_Fin _ _ _ _ _ _ _ (s₁.setTop (mkF m 17 #[.val (.long q0), .second, .val (.int p1), .val (.int z1)] [(.int (10 : Int32)), (.int z1), (.int (48 : Int32))]))
  refine own_go (fun _ k => own_irem X0.here hx rfl (hb hby d3_17) rfl (by decide) k) ?_
  show own_Fin _ _ _ _ _ _ _ (s₁.setTop (mkF m 18 #[.val (.long q0), .second, .val (.int p1), .val (.int z1)] [(.int (z1 % (10 : Int32))), (.int (48 : Int32))]))
  refine own_go (fun _ k => XS.iadd X0.here hx rfl (hb hby d3_18) rfl k) ?_
  show own_Fin _ _ _ _ _ _ _ (s₁.setTop (mkF m 19 #[.val (.long q0), .second, .val (.int p1), .val (.int z1)] [(.int ((48 : Int32) + (z1 % (10 : Int32))))]))
  refine own_go (fun _ k => XS.i2l X0.here hx rfl (hb hby d3_19) rfl k) ?_
  show own_Fin _ _ _ _ _ _ _ (s₁.setTop (mkF m 20 #[.val (.long q0), .second, .val (.int p1), .val (.int z1)] [(.long (((48 : Int32) + (z1 % (10 : Int32))).toInt64))]))
  refine own_go (fun _ k => XS.bipush X0.here hx rfl (hb hby d3_20) k) ?_
  show own_Fin _ _ _ _ _ _ _ (s₁.setTop (mkF m 22 #[.val (.long q0), .second, .val (.int p1), .val (.int z1)] [(.int (8 : Int32)), (.long (((48 : Int32) + (z1 % (10 : Int32))).toInt64))]))
  refine own_go (fun _ k => XS.iloadN X0.here hx rfl (hb hby d3_22) rfl k) ?_
  show own_Fin _ _ _ _ _ _ _ (s₁.setTop (mkF m 23 #[.val (.long q0), .second, .val (.int p1), .val (.int z1)] [(.int p1), (.int (8 : Int32)), (.long (((48 : Int32) + (z1 % (10 : Int32))).toInt64))]))
  refine own_go (fun _ k => XS.imul X0.here hx rfl (hb hby d3_23) rfl k) ?_
  show own_Fin _ _ _ _ _ _ _ (s₁.setTop (mkF m 24 #[.val (.long q0), .second, .val (.int p1), .val (.int z1)] [(.int ((8 : Int32) * p1)), (.long (((48 : Int32) + (z1 % (10 : Int32))).toInt64))]))
  refine own_go (fun _ k => XS.lshl X0.here hx rfl (hb hby d3_24) rfl k) ?_
  show own_Fin _ _ _ _ _ _ _ (s₁.setTop (mkF m 25 #[.val (.long q0), .second, .val (.int p1), .val (.int z1)] [(.long (own_lshl (((48 : Int32) + (z1 % (10 : Int32))).toInt64) ((8 : Int32) * p1)))]))
  refine own_ret X0 hx hlk Bd.returns rfl (Or.inr (Or.inl ⟨rfl, rfl, _, rfl⟩)) (hb hby d3_25) (Nat.le_of_ble_eq_true rfl) (Nat.le_of_ble_eq_true rfl) ?_
  exact ⟨(own_lf_own_f3_1 (q0 := q0) (p1 := p1) hz1), N0, e0⟩
theorem own_pd86 : parseMethodDescriptor "(JI)J" = some ⟨[.long, .int], some .long⟩ := by decide +kernel
theorem d2_0 : decode method_4_code 0 = .ok (.lload_n 0, 1) := by decide +kernel
theorem d2_1 : decode method_4_code 1 = .ok (.iconst 0, 1) := by decide +kernel
theorem d2_2 : decode method_4_code 2 = .ok (.invokestatic 23, 3) := by decide +kernel
theorem d2_5 : decode method_4_code 5 = .ok (.lload_n 0, 1) := by decide +kernel
theorem d2_6 : decode method_4_code 6 = .ok (.iconst 1, 1) := by decide +kernel
theorem d2_7 : decode method_4_code 7 = .ok (.invokestatic 23, 3) := by decide +kernel
theorem d2_10 : decode method_4_code 10 = .ok (.lor, 1) := by decide +kernel
theorem d2_11 : decode method_4_code 11 = .ok (.lload_n 0, 1) := by decide +kernel
theorem d2_12 : decode method_4_code 12 = .ok (.iconst 2, 1) := by decide +kernel
theorem d2_13 : decode method_4_code 13 = .ok (.invokestatic 23, 3) := by decide +kernel
theorem d2_16 : decode method_4_code 16 = .ok (.lor, 1) := by decide +kernel
theorem d2_17 : decode method_4_code 17 = .ok (.lload_n 0, 1) := by decide +kernel
theorem d2_18 : decode method_4_code 18 = .ok (.iconst 3, 1) := by decide +kernel
theorem d2_19 : decode method_4_code 19 = .ok (.invokestatic 23, 3) := by decide +kernel
theorem d2_22 : decode method_4_code 22 = .ok (.lor, 1) := by decide +kernel
theorem d2_23 : decode method_4_code 23 = .ok (.lload_n 0, 1) := by decide +kernel
theorem d2_24 : decode method_4_code 24 = .ok (.iconst 4, 1) := by decide +kernel
theorem d2_25 : decode method_4_code 25 = .ok (.invokestatic 23, 3) := by decide +kernel
theorem d2_28 : decode method_4_code 28 = .ok (.lor, 1) := by decide +kernel
theorem d2_29 : decode method_4_code 29 = .ok (.lload_n 0, 1) := by decide +kernel
theorem d2_30 : decode method_4_code 30 = .ok (.iconst 5, 1) := by decide +kernel
theorem d2_31 : decode method_4_code 31 = .ok (.invokestatic 23, 3) := by decide +kernel
theorem d2_34 : decode method_4_code 34 = .ok (.lor, 1) := by decide +kernel
theorem d2_35 : decode method_4_code 35 = .ok (.lload_n 0, 1) := by decide +kernel
theorem d2_36 : decode method_4_code 36 = .ok (.bipush 6, 2) := by decide +kernel
theorem d2_38 : decode method_4_code 38 = .ok (.invokestatic 23, 3) := by decide +kernel
theorem d2_41 : decode method_4_code 41 = .ok (.lor, 1) := by decide +kernel
theorem d2_42 : decode method_4_code 42 = .ok (.lload_n 0, 1) := by decide +kernel
theorem d2_43 : decode method_4_code 43 = .ok (.bipush 7, 2) := by decide +kernel
theorem d2_45 : decode method_4_code 45 = .ok (.invokestatic 23, 3) := by decide +kernel
theorem d2_48 : decode method_4_code 48 = .ok (.lor, 1) := by decide +kernel
theorem d2_49 : decode method_4_code 49 = .ok (.lreturn, 1) := by decide +kernel
theorem pn_2 : plainName "com/example/plain_tariff/plaintariff/ByteWordsDigitsPinLaw" = true := by first | (simp [plainName, overriddenIn]; done) | decide +kernel
theorem ef_2 (m : MethodId) (q0 : Int64) : entryFrame m #[(.long q0)] 2 = mkF m 0 #[.val (.long q0), .second] [] := by first | (simp [entryFrame, mkF, argsToLocals, Value.category]; done) | rfl
def own_rm2_room : Room := { frames := 1, cells := 0, slots := 0, locals := 17 }
def own_f2 (q0 : Int64) : Int64 := let z7 := ((((((own_f3 q0 (0 : Int32)) ||| (own_f3 q0 (1 : Int32))) ||| (own_f3 q0 (2 : Int32))) ||| (own_f3 q0 (3 : Int32))) ||| (own_f3 q0 (4 : Int32))) ||| (own_f3 q0 (5 : Int32))); ((z7 ||| (own_f3 q0 (6 : Int32))) ||| (own_f3 q0 (7 : Int32)))
theorem own_lf_own_f2_1 {q0 : Int64} {z7 : Int64} (hz7 : ((((((own_f3 q0 (0 : Int32)) ||| (own_f3 q0 (1 : Int32))) ||| (own_f3 q0 (2 : Int32))) ||| (own_f3 q0 (3 : Int32))) ||| (own_f3 q0 (4 : Int32))) ||| (own_f3 q0 (5 : Int32))) = z7) : (some (.long ((z7 ||| (own_f3 q0 (6 : Int32))) ||| (own_f3 q0 (7 : Int32)))) : Option Value) = some (.long (own_f2 q0)) := by
  subst hz7
  first | rfl | (simp only [own_f2]; done) | (simp only [own_f2]; rfl)
set_option maxRecDepth 65536 in
set_option maxHeartbeats 40000000 in
theorem rm2 (l : Launch) (Z : State) (a0 : Array Value) (hw : ∀ d ∈ tables_1, d.before a0 Z = true) (ws : List Jvm.Cond) (q0 : Int64) (h0 : Heap) (n0 : Nat) (Z0 : n0 ≤ h0.size) :
    MetFree l (⟨"com/example/plain_tariff/plaintariff/ByteWordsDigitsPinLaw", "digitWord", "(J)J"⟩ : MethodName) (head1 (Jvm.Cond.code (⟨"com/example/plain_tariff/plaintariff/ByteWordsDigitsPinLaw", "digitWord", "(J)J"⟩ : MethodName) method_4_code 2 (some .long) :: ws) own_rm2_room) (fun a U => a = #[(.long q0)] ∧ Z.Warmed39 U.vm ∧ U.heap = h0) (fun _ _ _ _ _ => True) (fun _ U o U' => ∃ v L, o = .returned v ∧ own_QP (some (.long (own_f2 q0))) h0 n0 v U'.heap L ∧ FrameEnd U o U' L own_rm2_room.cells own_rm2_room.slots) := by
  refine MetFree.of_bodySF (plainFor_of_name pn_2) hisR ?_
  intro p e s m args below meth c s₁ Bd hml0 hP hK
  obtain ⟨rfl, hZ, hh⟩ := hP
  have hx := Bd.exec
  have hby := Bd.bytes
  have hml : c.maxLocals = 2 := hml0
  have hown : s.vm.findClass "com/example/plain_tariff/plaintariff/ByteWordsDigitsPinLaw" = some m.cls := findClass_of_methodNamed Bd.named
  have hnm := (name_of_methodNamed Bd.named Bd.method).1
  have hlk : meth.locks = false := BodyLoose.notSynchronized Bd
  have X0 : Stand p l e own_rm2_room s m #[(.long q0)] below meth c s₁ [] 0 0 := Stand.of_body Bd
  have e0 : s₁.heap = h0 := by rw [← hh, Bd.state]; rfl
  have N0 := Fr.nil n0
  show own_Fin p.tables e below s (own_QP (some (.long (own_f2 q0))) h0 n0) own_rm2_room.cells own_rm2_room.slots (s₁.setTop (entryFrame m #[(.long q0)] 2))
  rw [ef_2]
  show own_Fin _ _ _ _ _ _ _ (s₁.setTop (mkF m 0 #[.val (.long q0), .second] []))
  refine own_go (fun _ k => XS.lloadN X0.here hx rfl (hb hby d2_0) rfl k) ?_
  show own_Fin _ _ _ _ _ _ _ (s₁.setTop (mkF m 1 #[.val (.long q0), .second] [(.long q0)]))
  refine own_go (fun _ k => XS.iconst X0.here hx rfl (hb hby d2_1) k) ?_
  show own_Fin _ _ _ _ _ _ _ (s₁.setTop (mkF m 2 #[.val (.long q0), .second] [(.int (0 : Int32)), (.long q0)]))
  obtain ⟨_, _, ⟨T1, L1, k1, n1⟩, -, X1, ⟨Lc1, hQ1, l1, y1, z1⟩, st1⟩ := Jvm.LawKit.callS X0 hx (y := (⟨"com/example/plain_tariff/plaintariff/ByteWordsDigitsPinLaw", "digitByte", "(JI)J"⟩ : MethodName)) hown (mvT hZ (hw _ (List.mem_of_getElem? (i := 7) rfl))) (mvT hZ (hw _ (List.mem_of_getElem? (i := 8) rfl))) (mvT hZ (hw _ (List.mem_of_getElem? (i := 2) rfl))) (mvT hZ (hw _ (List.mem_of_getElem? (i := 9) rfl))) (by decide) (backOf (W := 0) (rm3 l Z a0 hw [] q0 (0 : Int32) h0 n0 Z0) hZ (hw _ (List.mem_of_getElem? (i := 9) rfl)) (hw _ (List.mem_of_getElem? (i := 2) rfl)) (by decide) (by decide)) (g := (mkF m 2 #[.val (.long q0), .second] [(.int (0 : Int32)), (.long q0)])) rfl (by rw [hml]; rfl) (argsL := [(.long q0), (.int (0 : Int32))]) (rest := []) (lenOf own_pd86 rfl) rfl (by show 2 * 0 + _ ≤ _; exact Nat.le_of_eq rfl) (hb hby d2_2) (fun _ _ => ⟨rfl, e0, (by decide : 0 + 0 ≤ _), (by decide : 0 + 0 ≤ _)⟩)
  dsimp only [Pt.U, Pt.locs, Pt.cells, Pt.slots] at X1 l1 y1 z1 st1 hQ1
  replace y1 : 0 = k1 := y1.symm
  replace z1 : 0 = n1 := z1.symm
  subst y1 z1
  obtain ⟨rfl, N1q, e1⟩ := hQ1
  have N1 : Fr n0 L1 := by rw [l1]; exact Fr.app N0 N1q
  refine own_go (fun tg k => st1 tg k) ?_
  show own_Fin _ _ _ _ _ _ _ (T1.setTop (mkF m 5 #[.val (.long q0), .second] [(.long (own_f3 q0 (0 : Int32)))]))
  refine own_go (fun _ k => XS.lloadN X1.here hx rfl (hb hby d2_5) rfl k) ?_
  show own_Fin _ _ _ _ _ _ _ (T1.setTop (mkF m 6 #[.val (.long q0), .second] [(.long q0), (.long (own_f3 q0 (0 : Int32)))]))
  refine own_go (fun _ k => XS.iconst X1.here hx rfl (hb hby d2_6) k) ?_
  show own_Fin _ _ _ _ _ _ _ (T1.setTop (mkF m 7 #[.val (.long q0), .second] [(.int (1 : Int32)), (.long q0), (.long (own_f3 q0 (0 : Int32)))]))
  obtain ⟨_, _, ⟨T2, L2, k2, n2⟩, -, X2, ⟨Lc2, hQ2, l2, y2, z2⟩, st2⟩ := Jvm.LawKit.callS X1 hx (y := (⟨"com/example/plain_tariff/plaintariff/ByteWordsDigitsPinLaw", "digitByte", "(JI)J"⟩ : MethodName)) hown (mvT hZ (hw _ (List.mem_of_getElem? (i := 7) rfl))) (mvT hZ (hw _ (List.mem_of_getElem? (i := 8) rfl))) (mvT hZ (hw _ (List.mem_of_getElem? (i := 2) rfl))) (mvT hZ (hw _ (List.mem_of_getElem? (i := 9) rfl))) (by decide) (backOf (W := 2) (rm3 l Z a0 hw [] q0 (1 : Int32) h0 n0 Z0) hZ (hw _ (List.mem_of_getElem? (i := 9) rfl)) (hw _ (List.mem_of_getElem? (i := 2) rfl)) (by decide) (by decide)) (g := (mkF m 7 #[.val (.long q0), .second] [(.int (1 : Int32)), (.long q0), (.long (own_f3 q0 (0 : Int32)))])) rfl (by rw [hml]; rfl) (argsL := [(.long q0), (.int (1 : Int32))]) (rest := [(.long (own_f3 q0 (0 : Int32)))]) (lenOf own_pd86 rfl) rfl (by show 2 * 0 + _ ≤ _; exact Nat.le_of_eq rfl) (hb hby d2_7) (fun _ _ => ⟨rfl, e1, (by decide : 0 + 0 ≤ _), (by decide : 0 + 0 ≤ _)⟩)
  dsimp only [Pt.U, Pt.locs, Pt.cells, Pt.slots] at X2 l2 y2 z2 st2 hQ2
  replace y2 : 0 = k2 := y2.symm
  replace z2 : 0 = n2 := z2.symm
  subst y2 z2
  obtain ⟨rfl, N2q, e2⟩ := hQ2
  have N2 : Fr n0 L2 := by rw [l2]; exact Fr.app N1 N2q
  refine own_go (fun tg k => st2 tg k) ?_
  show own_Fin _ _ _ _ _ _ _ (T2.setTop (mkF m 10 #[.val (.long q0), .second] [(.long (own_f3 q0 (1 : Int32))), (.long (own_f3 q0 (0 : Int32)))]))
  refine own_go (fun _ k => XS.lor X2.here hx rfl (hb hby d2_10) rfl k) ?_
  show own_Fin _ _ _ _ _ _ _ (T2.setTop (mkF m 11 #[.val (.long q0), .second] [(.long ((own_f3 q0 (0 : Int32)) ||| (own_f3 q0 (1 : Int32))))]))
  refine own_go (fun _ k => XS.lloadN X2.here hx rfl (hb hby d2_11) rfl k) ?_
  show own_Fin _ _ _ _ _ _ _ (T2.setTop (mkF m 12 #[.val (.long q0), .second] [(.long q0), (.long ((own_f3 q0 (0 : Int32)) ||| (own_f3 q0 (1 : Int32))))]))
  refine own_go (fun _ k => XS.iconst X2.here hx rfl (hb hby d2_12) k) ?_
  show own_Fin _ _ _ _ _ _ _ (T2.setTop (mkF m 13 #[.val (.long q0), .second] [(.int (2 : Int32)), (.long q0), (.long ((own_f3 q0 (0 : Int32)) ||| (own_f3 q0 (1 : Int32))))]))
  obtain ⟨_, _, ⟨T3, L3, k3, n3⟩, -, X3, ⟨Lc3, hQ3, l3, y3, z3⟩, st3⟩ := Jvm.LawKit.callS X2 hx (y := (⟨"com/example/plain_tariff/plaintariff/ByteWordsDigitsPinLaw", "digitByte", "(JI)J"⟩ : MethodName)) hown (mvT hZ (hw _ (List.mem_of_getElem? (i := 7) rfl))) (mvT hZ (hw _ (List.mem_of_getElem? (i := 8) rfl))) (mvT hZ (hw _ (List.mem_of_getElem? (i := 2) rfl))) (mvT hZ (hw _ (List.mem_of_getElem? (i := 9) rfl))) (by decide) (backOf (W := 2) (rm3 l Z a0 hw [] q0 (2 : Int32) h0 n0 Z0) hZ (hw _ (List.mem_of_getElem? (i := 9) rfl)) (hw _ (List.mem_of_getElem? (i := 2) rfl)) (by decide) (by decide)) (g := (mkF m 13 #[.val (.long q0), .second] [(.int (2 : Int32)), (.long q0), (.long ((own_f3 q0 (0 : Int32)) ||| (own_f3 q0 (1 : Int32))))])) rfl (by rw [hml]; rfl) (argsL := [(.long q0), (.int (2 : Int32))]) (rest := [(.long ((own_f3 q0 (0 : Int32)) ||| (own_f3 q0 (1 : Int32))))]) (lenOf own_pd86 rfl) rfl (by show 2 * 0 + _ ≤ _; exact Nat.le_of_eq rfl) (hb hby d2_13) (fun _ _ => ⟨rfl, e2, (by decide : 0 + 0 ≤ _), (by decide : 0 + 0 ≤ _)⟩)
  dsimp only [Pt.U, Pt.locs, Pt.cells, Pt.slots] at X3 l3 y3 z3 st3 hQ3
  replace y3 : 0 = k3 := y3.symm
  replace z3 : 0 = n3 := z3.symm
  subst y3 z3
  obtain ⟨rfl, N3q, e3⟩ := hQ3
  have N3 : Fr n0 L3 := by rw [l3]; exact Fr.app N2 N3q
  refine own_go (fun tg k => st3 tg k) ?_
  show own_Fin _ _ _ _ _ _ _ (T3.setTop (mkF m 16 #[.val (.long q0), .second] [(.long (own_f3 q0 (2 : Int32))), (.long ((own_f3 q0 (0 : Int32)) ||| (own_f3 q0 (1 : Int32))))]))
  refine own_go (fun _ k => XS.lor X3.here hx rfl (hb hby d2_16) rfl k) ?_
  show own_Fin _ _ _ _ _ _ _ (T3.setTop (mkF m 17 #[.val (.long q0), .second] [(.long (((own_f3 q0 (0 : Int32)) ||| (own_f3 q0 (1 : Int32))) ||| (own_f3 q0 (2 : Int32))))]))
  refine own_go (fun _ k => XS.lloadN X3.here hx rfl (hb hby d2_17) rfl k) ?_
  show own_Fin _ _ _ _ _ _ _ (T3.setTop (mkF m 18 #[.val (.long q0), .second] [(.long q0), (.long (((own_f3 q0 (0 : Int32)) ||| (own_f3 q0 (1 : Int32))) ||| (own_f3 q0 (2 : Int32))))]))
  refine own_go (fun _ k => XS.iconst X3.here hx rfl (hb hby d2_18) k) ?_
  show own_Fin _ _ _ _ _ _ _ (T3.setTop (mkF m 19 #[.val (.long q0), .second] [(.int (3 : Int32)), (.long q0), (.long (((own_f3 q0 (0 : Int32)) ||| (own_f3 q0 (1 : Int32))) ||| (own_f3 q0 (2 : Int32))))]))
  obtain ⟨_, _, ⟨T4, L4, k4, n4⟩, -, X4, ⟨Lc4, hQ4, l4, y4, z4⟩, st4⟩ := Jvm.LawKit.callS X3 hx (y := (⟨"com/example/plain_tariff/plaintariff/ByteWordsDigitsPinLaw", "digitByte", "(JI)J"⟩ : MethodName)) hown (mvT hZ (hw _ (List.mem_of_getElem? (i := 7) rfl))) (mvT hZ (hw _ (List.mem_of_getElem? (i := 8) rfl))) (mvT hZ (hw _ (List.mem_of_getElem? (i := 2) rfl))) (mvT hZ (hw _ (List.mem_of_getElem? (i := 9) rfl))) (by decide) (backOf (W := 2) (rm3 l Z a0 hw [] q0 (3 : Int32) h0 n0 Z0) hZ (hw _ (List.mem_of_getElem? (i := 9) rfl)) (hw _ (List.mem_of_getElem? (i := 2) rfl)) (by decide) (by decide)) (g := (mkF m 19 #[.val (.long q0), .second] [(.int (3 : Int32)), (.long q0), (.long (((own_f3 q0 (0 : Int32)) ||| (own_f3 q0 (1 : Int32))) ||| (own_f3 q0 (2 : Int32))))])) rfl (by rw [hml]; rfl) (argsL := [(.long q0), (.int (3 : Int32))]) (rest := [(.long (((own_f3 q0 (0 : Int32)) ||| (own_f3 q0 (1 : Int32))) ||| (own_f3 q0 (2 : Int32))))]) (lenOf own_pd86 rfl) rfl (by show 2 * 0 + _ ≤ _; exact Nat.le_of_eq rfl) (hb hby d2_19) (fun _ _ => ⟨rfl, e3, (by decide : 0 + 0 ≤ _), (by decide : 0 + 0 ≤ _)⟩)
  dsimp only [Pt.U, Pt.locs, Pt.cells, Pt.slots] at X4 l4 y4 z4 st4 hQ4
  replace y4 : 0 = k4 := y4.symm
  replace z4 : 0 = n4 := z4.symm
  subst y4 z4
  obtain ⟨rfl, N4q, e4⟩ := hQ4
  have N4 : Fr n0 L4 := by rw [l4]; exact Fr.app N3 N4q
  refine own_go (fun tg k => st4 tg k) ?_
  show own_Fin _ _ _ _ _ _ _ (T4.setTop (mkF m 22 #[.val (.long q0), .second] [(.long (own_f3 q0 (3 : Int32))), (.long (((own_f3 q0 (0 : Int32)) ||| (own_f3 q0 (1 : Int32))) ||| (own_f3 q0 (2 : Int32))))]))
  refine own_go (fun _ k => XS.lor X4.here hx rfl (hb hby d2_22) rfl k) ?_
  show own_Fin _ _ _ _ _ _ _ (T4.setTop (mkF m 23 #[.val (.long q0), .second] [(.long ((((own_f3 q0 (0 : Int32)) ||| (own_f3 q0 (1 : Int32))) ||| (own_f3 q0 (2 : Int32))) ||| (own_f3 q0 (3 : Int32))))]))
  refine own_go (fun _ k => XS.lloadN X4.here hx rfl (hb hby d2_23) rfl k) ?_
  show own_Fin _ _ _ _ _ _ _ (T4.setTop (mkF m 24 #[.val (.long q0), .second] [(.long q0), (.long ((((own_f3 q0 (0 : Int32)) ||| (own_f3 q0 (1 : Int32))) ||| (own_f3 q0 (2 : Int32))) ||| (own_f3 q0 (3 : Int32))))]))
  refine own_go (fun _ k => XS.iconst X4.here hx rfl (hb hby d2_24) k) ?_
  show own_Fin _ _ _ _ _ _ _ (T4.setTop (mkF m 25 #[.val (.long q0), .second] [(.int (4 : Int32)), (.long q0), (.long ((((own_f3 q0 (0 : Int32)) ||| (own_f3 q0 (1 : Int32))) ||| (own_f3 q0 (2 : Int32))) ||| (own_f3 q0 (3 : Int32))))]))
  obtain ⟨_, _, ⟨T5, L5, k5, n5⟩, -, X5, ⟨Lc5, hQ5, l5, y5, z5⟩, st5⟩ := Jvm.LawKit.callS X4 hx (y := (⟨"com/example/plain_tariff/plaintariff/ByteWordsDigitsPinLaw", "digitByte", "(JI)J"⟩ : MethodName)) hown (mvT hZ (hw _ (List.mem_of_getElem? (i := 7) rfl))) (mvT hZ (hw _ (List.mem_of_getElem? (i := 8) rfl))) (mvT hZ (hw _ (List.mem_of_getElem? (i := 2) rfl))) (mvT hZ (hw _ (List.mem_of_getElem? (i := 9) rfl))) (by decide) (backOf (W := 2) (rm3 l Z a0 hw [] q0 (4 : Int32) h0 n0 Z0) hZ (hw _ (List.mem_of_getElem? (i := 9) rfl)) (hw _ (List.mem_of_getElem? (i := 2) rfl)) (by decide) (by decide)) (g := (mkF m 25 #[.val (.long q0), .second] [(.int (4 : Int32)), (.long q0), (.long ((((own_f3 q0 (0 : Int32)) ||| (own_f3 q0 (1 : Int32))) ||| (own_f3 q0 (2 : Int32))) ||| (own_f3 q0 (3 : Int32))))])) rfl (by rw [hml]; rfl) (argsL := [(.long q0), (.int (4 : Int32))]) (rest := [(.long ((((own_f3 q0 (0 : Int32)) ||| (own_f3 q0 (1 : Int32))) ||| (own_f3 q0 (2 : Int32))) ||| (own_f3 q0 (3 : Int32))))]) (lenOf own_pd86 rfl) rfl (by show 2 * 0 + _ ≤ _; exact Nat.le_of_eq rfl) (hb hby d2_25) (fun _ _ => ⟨rfl, e4, (by decide : 0 + 0 ≤ _), (by decide : 0 + 0 ≤ _)⟩)
  dsimp only [Pt.U, Pt.locs, Pt.cells, Pt.slots] at X5 l5 y5 z5 st5 hQ5
  replace y5 : 0 = k5 := y5.symm
  replace z5 : 0 = n5 := z5.symm
  subst y5 z5
  obtain ⟨rfl, N5q, e5⟩ := hQ5
  have N5 : Fr n0 L5 := by rw [l5]; exact Fr.app N4 N5q
  refine own_go (fun tg k => st5 tg k) ?_
  show own_Fin _ _ _ _ _ _ _ (T5.setTop (mkF m 28 #[.val (.long q0), .second] [(.long (own_f3 q0 (4 : Int32))), (.long ((((own_f3 q0 (0 : Int32)) ||| (own_f3 q0 (1 : Int32))) ||| (own_f3 q0 (2 : Int32))) ||| (own_f3 q0 (3 : Int32))))]))
  refine own_go (fun _ k => XS.lor X5.here hx rfl (hb hby d2_28) rfl k) ?_
  show own_Fin _ _ _ _ _ _ _ (T5.setTop (mkF m 29 #[.val (.long q0), .second] [(.long (((((own_f3 q0 (0 : Int32)) ||| (own_f3 q0 (1 : Int32))) ||| (own_f3 q0 (2 : Int32))) ||| (own_f3 q0 (3 : Int32))) ||| (own_f3 q0 (4 : Int32))))]))
  refine own_go (fun _ k => XS.lloadN X5.here hx rfl (hb hby d2_29) rfl k) ?_
  show own_Fin _ _ _ _ _ _ _ (T5.setTop (mkF m 30 #[.val (.long q0), .second] [(.long q0), (.long (((((own_f3 q0 (0 : Int32)) ||| (own_f3 q0 (1 : Int32))) ||| (own_f3 q0 (2 : Int32))) ||| (own_f3 q0 (3 : Int32))) ||| (own_f3 q0 (4 : Int32))))]))
  refine own_go (fun _ k => XS.iconst X5.here hx rfl (hb hby d2_30) k) ?_
  show own_Fin _ _ _ _ _ _ _ (T5.setTop (mkF m 31 #[.val (.long q0), .second] [(.int (5 : Int32)), (.long q0), (.long (((((own_f3 q0 (0 : Int32)) ||| (own_f3 q0 (1 : Int32))) ||| (own_f3 q0 (2 : Int32))) ||| (own_f3 q0 (3 : Int32))) ||| (own_f3 q0 (4 : Int32))))]))
  obtain ⟨_, _, ⟨T6, L6, k6, n6⟩, -, X6, ⟨Lc6, hQ6, l6, y6, z6⟩, st6⟩ := Jvm.LawKit.callS X5 hx (y := (⟨"com/example/plain_tariff/plaintariff/ByteWordsDigitsPinLaw", "digitByte", "(JI)J"⟩ : MethodName)) hown (mvT hZ (hw _ (List.mem_of_getElem? (i := 7) rfl))) (mvT hZ (hw _ (List.mem_of_getElem? (i := 8) rfl))) (mvT hZ (hw _ (List.mem_of_getElem? (i := 2) rfl))) (mvT hZ (hw _ (List.mem_of_getElem? (i := 9) rfl))) (by decide) (backOf (W := 2) (rm3 l Z a0 hw [] q0 (5 : Int32) h0 n0 Z0) hZ (hw _ (List.mem_of_getElem? (i := 9) rfl)) (hw _ (List.mem_of_getElem? (i := 2) rfl)) (by decide) (by decide)) (g := (mkF m 31 #[.val (.long q0), .second] [(.int (5 : Int32)), (.long q0), (.long (((((own_f3 q0 (0 : Int32)) ||| (own_f3 q0 (1 : Int32))) ||| (own_f3 q0 (2 : Int32))) ||| (own_f3 q0 (3 : Int32))) ||| (own_f3 q0 (4 : Int32))))])) rfl (by rw [hml]; rfl) (argsL := [(.long q0), (.int (5 : Int32))]) (rest := [(.long (((((own_f3 q0 (0 : Int32)) ||| (own_f3 q0 (1 : Int32))) ||| (own_f3 q0 (2 : Int32))) ||| (own_f3 q0 (3 : Int32))) ||| (own_f3 q0 (4 : Int32))))]) (lenOf own_pd86 rfl) rfl (by show 2 * 0 + _ ≤ _; exact Nat.le_of_eq rfl) (hb hby d2_31) (fun _ _ => ⟨rfl, e5, (by decide : 0 + 0 ≤ _), (by decide : 0 + 0 ≤ _)⟩)
  dsimp only [Pt.U, Pt.locs, Pt.cells, Pt.slots] at X6 l6 y6 z6 st6 hQ6
  replace y6 : 0 = k6 := y6.symm
  replace z6 : 0 = n6 := z6.symm
  subst y6 z6
  obtain ⟨rfl, N6q, e6⟩ := hQ6
  have N6 : Fr n0 L6 := by rw [l6]; exact Fr.app N5 N6q
  refine own_go (fun tg k => st6 tg k) ?_
  show own_Fin _ _ _ _ _ _ _ (T6.setTop (mkF m 34 #[.val (.long q0), .second] [(.long (own_f3 q0 (5 : Int32))), (.long (((((own_f3 q0 (0 : Int32)) ||| (own_f3 q0 (1 : Int32))) ||| (own_f3 q0 (2 : Int32))) ||| (own_f3 q0 (3 : Int32))) ||| (own_f3 q0 (4 : Int32))))]))
  refine own_go (fun _ k => XS.lor X6.here hx rfl (hb hby d2_34) rfl k) ?_
  show own_Fin _ _ _ _ _ _ _ (T6.setTop (mkF m 35 #[.val (.long q0), .second] [(.long ((((((own_f3 q0 (0 : Int32)) ||| (own_f3 q0 (1 : Int32))) ||| (own_f3 q0 (2 : Int32))) ||| (own_f3 q0 (3 : Int32))) ||| (own_f3 q0 (4 : Int32))) ||| (own_f3 q0 (5 : Int32))))]))
  generalize hz7 : ((((((own_f3 q0 (0 : Int32)) ||| (own_f3 q0 (1 : Int32))) ||| (own_f3 q0 (2 : Int32))) ||| (own_f3 q0 (3 : Int32))) ||| (own_f3 q0 (4 : Int32))) ||| (own_f3 q0 (5 : Int32))) = z7
  show own_Fin _ _ _ _ _ _ _ (T6.setTop (mkF m 35 #[.val (.long q0), .second] [(.long z7)]))
  refine own_go (fun _ k => XS.lloadN X6.here hx rfl (hb hby d2_35) rfl k) ?_
  show own_Fin _ _ _ _ _ _ _ (T6.setTop (mkF m 36 #[.val (.long q0), .second] [(.long q0), (.long z7)]))
  refine own_go (fun _ k => XS.bipush X6.here hx rfl (hb hby d2_36) k) ?_
  show own_Fin _ _ _ _ _ _ _ (T6.setTop (mkF m 38 #[.val (.long q0), .second] [(.int (6 : Int32)), (.long q0), (.long z7)]))
  obtain ⟨_, _, ⟨T8, L8, k8, n8⟩, -, X8, ⟨Lc8, hQ8, l8, y8, z8⟩, st8⟩ := Jvm.LawKit.callS X6 hx (y := (⟨"com/example/plain_tariff/plaintariff/ByteWordsDigitsPinLaw", "digitByte", "(JI)J"⟩ : MethodName)) hown (mvT hZ (hw _ (List.mem_of_getElem? (i := 7) rfl))) (mvT hZ (hw _ (List.mem_of_getElem? (i := 8) rfl))) (mvT hZ (hw _ (List.mem_of_getElem? (i := 2) rfl))) (mvT hZ (hw _ (List.mem_of_getElem? (i := 9) rfl))) (by decide) (backOf (W := 2) (rm3 l Z a0 hw [] q0 (6 : Int32) h0 n0 Z0) hZ (hw _ (List.mem_of_getElem? (i := 9) rfl)) (hw _ (List.mem_of_getElem? (i := 2) rfl)) (by decide) (by decide)) (g := (mkF m 38 #[.val (.long q0), .second] [(.int (6 : Int32)), (.long q0), (.long z7)])) rfl (by rw [hml]; rfl) (argsL := [(.long q0), (.int (6 : Int32))]) (rest := [(.long z7)]) (lenOf own_pd86 rfl) rfl (by show 2 * 0 + _ ≤ _; exact Nat.le_of_eq rfl) (hb hby d2_38) (fun _ _ => ⟨rfl, e6, (by decide : 0 + 0 ≤ _), (by decide : 0 + 0 ≤ _)⟩)
  dsimp only [Pt.U, Pt.locs, Pt.cells, Pt.slots] at X8 l8 y8 z8 st8 hQ8
  replace y8 : 0 = k8 := y8.symm
  replace z8 : 0 = n8 := z8.symm
  subst y8 z8
  obtain ⟨rfl, N8q, e8⟩ := hQ8
  have N8 : Fr n0 L8 := by rw [l8]; exact Fr.app N6 N8q
  refine own_go (fun tg k => st8 tg k) ?_
  show own_Fin _ _ _ _ _ _ _ (T8.setTop (mkF m 41 #[.val (.long q0), .second] [(.long (own_f3 q0 (6 : Int32))), (.long z7)]))
  refine own_go (fun _ k => XS.lor X8.here hx rfl (hb hby d2_41) rfl k) ?_
  show own_Fin _ _ _ _ _ _ _ (T8.setTop (mkF m 42 #[.val (.long q0), .second] [(.long (z7 ||| (own_f3 q0 (6 : Int32))))]))
  refine own_go (fun _ k => XS.lloadN X8.here hx rfl (hb hby d2_42) rfl k) ?_
  show own_Fin _ _ _ _ _ _ _ (T8.setTop (mkF m 43 #[.val (.long q0), .second] [(.long q0), (.long (z7 ||| (own_f3 q0 (6 : Int32))))]))
  refine own_go (fun _ k => XS.bipush X8.here hx rfl (hb hby d2_43) k) ?_
  show own_Fin _ _ _ _ _ _ _ (T8.setTop (mkF m 45 #[.val (.long q0), .second] [(.int (7 : Int32)), (.long q0), (.long (z7 ||| (own_f3 q0 (6 : Int32))))]))
  obtain ⟨_, _, ⟨T9, L9, k9, n9⟩, -, X9, ⟨Lc9, hQ9, l9, y9, z9⟩, st9⟩ := Jvm.LawKit.callS X8 hx (y := (⟨"com/example/plain_tariff/plaintariff/ByteWordsDigitsPinLaw", "digitByte", "(JI)J"⟩ : MethodName)) hown (mvT hZ (hw _ (List.mem_of_getElem? (i := 7) rfl))) (mvT hZ (hw _ (List.mem_of_getElem? (i := 8) rfl))) (mvT hZ (hw _ (List.mem_of_getElem? (i := 2) rfl))) (mvT hZ (hw _ (List.mem_of_getElem? (i := 9) rfl))) (by decide) (backOf (W := 2) (rm3 l Z a0 hw [] q0 (7 : Int32) h0 n0 Z0) hZ (hw _ (List.mem_of_getElem? (i := 9) rfl)) (hw _ (List.mem_of_getElem? (i := 2) rfl)) (by decide) (by decide)) (g := (mkF m 45 #[.val (.long q0), .second] [(.int (7 : Int32)), (.long q0), (.long (z7 ||| (own_f3 q0 (6 : Int32))))])) rfl (by rw [hml]; rfl) (argsL := [(.long q0), (.int (7 : Int32))]) (rest := [(.long (z7 ||| (own_f3 q0 (6 : Int32))))]) (lenOf own_pd86 rfl) rfl (by show 2 * 0 + _ ≤ _; exact Nat.le_of_eq rfl) (hb hby d2_45) (fun _ _ => ⟨rfl, e8, (by decide : 0 + 0 ≤ _), (by decide : 0 + 0 ≤ _)⟩)
  dsimp only [Pt.U, Pt.locs, Pt.cells, Pt.slots] at X9 l9 y9 z9 st9 hQ9
  replace y9 : 0 = k9 := y9.symm
  replace z9 : 0 = n9 := z9.symm
  subst y9 z9
  obtain ⟨rfl, N9q, e9⟩ := hQ9
  have N9 : Fr n0 L9 := by rw [l9]; exact Fr.app N8 N9q
  refine own_go (fun tg k => st9 tg k) ?_
  show own_Fin _ _ _ _ _ _ _ (T9.setTop (mkF m 48 #[.val (.long q0), .second] [(.long (own_f3 q0 (7 : Int32))), (.long (z7 ||| (own_f3 q0 (6 : Int32))))]))
  refine own_go (fun _ k => XS.lor X9.here hx rfl (hb hby d2_48) rfl k) ?_
  show own_Fin _ _ _ _ _ _ _ (T9.setTop (mkF m 49 #[.val (.long q0), .second] [(.long ((z7 ||| (own_f3 q0 (6 : Int32))) ||| (own_f3 q0 (7 : Int32))))]))
  refine own_ret X9 hx hlk Bd.returns rfl (Or.inr (Or.inl ⟨rfl, rfl, _, rfl⟩)) (hb hby d2_49) (Nat.le_of_ble_eq_true rfl) (Nat.le_of_ble_eq_true rfl) ?_
  exact ⟨(own_lf_own_f2_1 (q0 := q0) hz7), N9, e9⟩
theorem d4_0 : decode method_5_code 0 = .ok (.iload_n 2, 1) := by decide +kernel
theorem d4_1 : decode method_5_code 1 = .ok (.iload_n 3, 1) := by decide +kernel
theorem d4_2 : decode method_5_code 2 = .ok (.iushr, 1) := by decide +kernel
theorem d4_3 : decode method_5_code 3 = .ok (.iconst 1, 1) := by decide +kernel
theorem d4_4 : decode method_5_code 4 = .ok (.iand, 1) := by decide +kernel
theorem d4_5 : decode method_5_code 5 = .ok (.ifCond .ne 5, 3) := by decide +kernel
theorem d4_8 : decode method_5_code 8 = .ok (.iconst 1, 1) := by decide +kernel
theorem d4_9 : decode method_5_code 9 = .ok (.ireturn, 1) := by decide +kernel
theorem d4_10 : decode method_5_code 10 = .ok (.lload_n 0, 1) := by decide +kernel
theorem d4_11 : decode method_5_code 11 = .ok (.bipush 8, 2) := by decide +kernel
theorem d4_13 : decode method_5_code 13 = .ok (.iload_n 3, 1) := by decide +kernel
theorem d4_14 : decode method_5_code 14 = .ok (.imul, 1) := by decide +kernel
theorem d4_15 : decode method_5_code 15 = .ok (.lushr, 1) := by decide +kernel
theorem d4_16 : decode method_5_code 16 = .ok (.ldc2_w 7, 3) := by decide +kernel
theorem d4_19 : decode method_5_code 19 = .ok (.land, 1) := by decide +kernel
theorem d4_20 : decode method_5_code 20 = .ok (.l2i, 1) := by decide +kernel
theorem d4_21 : decode method_5_code 21 = .ok (.istore 4, 2) := by decide +kernel
theorem d4_23 : decode method_5_code 23 = .ok (.iload 4, 2) := by decide +kernel
theorem d4_25 : decode method_5_code 25 = .ok (.bipush 48, 2) := by decide +kernel
theorem d4_27 : decode method_5_code 27 = .ok (.if_icmp .lt 14, 3) := by decide +kernel
theorem d4_30 : decode method_5_code 30 = .ok (.iload 4, 2) := by decide +kernel
theorem d4_32 : decode method_5_code 32 = .ok (.bipush 57, 2) := by decide +kernel
theorem d4_34 : decode method_5_code 34 = .ok (.if_icmp .gt 7, 3) := by decide +kernel
theorem d4_37 : decode method_5_code 37 = .ok (.iconst 1, 1) := by decide +kernel
theorem d4_38 : decode method_5_code 38 = .ok (.goto 4, 3) := by decide +kernel
theorem d4_41 : decode method_5_code 41 = .ok (.iconst 0, 1) := by decide +kernel
theorem d4_42 : decode method_5_code 42 = .ok (.ireturn, 1) := by decide +kernel
theorem pn_4 : plainName "com/example/plain_tariff/plaintariff/ByteWordsDigitsPinLaw" = true := by first | (simp [plainName, overriddenIn]; done) | decide +kernel
theorem ef_4 (m : MethodId) (q0 : Int64) (p1 : Int32) (p2 : Int32) : entryFrame m #[(.long q0), (.int p1), (.int p2)] 5 = mkF m 0 #[.val (.long q0), .second, .val (.int p1), .val (.int p2), .unset] [] := by first | (simp [entryFrame, mkF, argsToLocals, Value.category]; done) | rfl
def own_rm4_room : Room := { frames := 0, cells := 0, slots := 0, locals := 0 }
def own_f4 (q0 : Int64) (p1 : Int32) (p2 : Int32) : Int32 := (if ((own_iushr p1 p2) &&& (1 : Int32)) = (0 : Int32) then ((1 : Int32)) else (let z2 := (((own_lushr q0 ((8 : Int32) * p2)) &&& (255 : Int64)).toInt32); (if z2 < (48 : Int32) then ((0 : Int32)) else ((if (57 : Int32) < z2 then ((0 : Int32)) else ((1 : Int32)))))))
theorem own_lf_own_f4_1 {q0 : Int64} {p1 : Int32} {p2 : Int32} (hc1 : ((own_iushr p1 p2) &&& (1 : Int32)) = (0 : Int32)) : (some (.int (1 : Int32)) : Option Value) = some (.int (own_f4 q0 p1 p2)) := by
  first | (simp only [own_f4, if_pos hc1]; done) | (simp only [own_f4, if_pos hc1]; rfl) | rfl
theorem own_lf_own_f4_2 {q0 : Int64} {p1 : Int32} {p2 : Int32} {z2 : Int32} (hz2 : (((own_lushr q0 ((8 : Int32) * p2)) &&& (255 : Int64)).toInt32) = z2) (hc1 : ¬ (((own_iushr p1 p2) &&& (1 : Int32)) = (0 : Int32))) (hc3 : z2 < (48 : Int32)) : (some (.int (0 : Int32)) : Option Value) = some (.int (own_f4 q0 p1 p2)) := by
  subst hz2
  first | (simp only [own_f4, if_neg hc1, if_pos hc3]; done) | (simp only [own_f4, if_neg hc1, if_pos hc3]; rfl) | rfl
theorem own_lf_own_f4_3 {q0 : Int64} {p1 : Int32} {p2 : Int32} {z2 : Int32} (hz2 : (((own_lushr q0 ((8 : Int32) * p2)) &&& (255 : Int64)).toInt32) = z2) (hc1 : ¬ (((own_iushr p1 p2) &&& (1 : Int32)) = (0 : Int32))) (hc3 : ¬ (z2 < (48 : Int32))) (hc4 : (57 : Int32) < z2) : (some (.int (0 : Int32)) : Option Value) = some (.int (own_f4 q0 p1 p2)) := by
  subst hz2
  first | (simp only [own_f4, if_neg hc1, if_neg hc3, if_pos hc4]; done) | (simp only [own_f4, if_neg hc1, if_neg hc3, if_pos hc4]; rfl) | rfl
theorem own_lf_own_f4_4 {q0 : Int64} {p1 : Int32} {p2 : Int32} {z2 : Int32} (hz2 : (((own_lushr q0 ((8 : Int32) * p2)) &&& (255 : Int64)).toInt32) = z2) (hc1 : ¬ (((own_iushr p1 p2) &&& (1 : Int32)) = (0 : Int32))) (hc3 : ¬ (z2 < (48 : Int32))) (hc4 : ¬ ((57 : Int32) < z2)) : (some (.int (1 : Int32)) : Option Value) = some (.int (own_f4 q0 p1 p2)) := by
  subst hz2
  first | (simp only [own_f4, if_neg hc1, if_neg hc3, if_neg hc4]; done) | (simp only [own_f4, if_neg hc1, if_neg hc3, if_neg hc4]; rfl) | rfl
set_option maxRecDepth 65536 in
set_option maxHeartbeats 40000000 in
theorem rm4 (l : Launch) (Z : State) (a0 : Array Value) (hw : ∀ d ∈ tables_1, d.before a0 Z = true) (ws : List Jvm.Cond) (q0 : Int64) (p1 : Int32) (p2 : Int32) (h0 : Heap) (n0 : Nat) (Z0 : n0 ≤ h0.size) :
    MetFree l (⟨"com/example/plain_tariff/plaintariff/ByteWordsDigitsPinLaw", "ok", "(JII)Z"⟩ : MethodName) (head1 (Jvm.Cond.code (⟨"com/example/plain_tariff/plaintariff/ByteWordsDigitsPinLaw", "ok", "(JII)Z"⟩ : MethodName) method_5_code 5 (some .boolean) :: ws) own_rm4_room) (fun a U => a = #[(.long q0), (.int p1), (.int p2)] ∧ Z.Warmed39 U.vm ∧ U.heap = h0) (fun _ _ _ _ _ => True) (fun _ U o U' => ∃ v L, o = .returned v ∧ own_QP (some (.int (own_f4 q0 p1 p2))) h0 n0 v U'.heap L ∧ FrameEnd U o U' L own_rm4_room.cells own_rm4_room.slots) := by
  refine MetFree.of_bodySF (plainFor_of_name pn_4) hisR ?_
  intro p e s m args below meth c s₁ Bd hml0 hP hK
  obtain ⟨rfl, hZ, hh⟩ := hP
  have hx := Bd.exec
  have hby := Bd.bytes
  have hml : c.maxLocals = 5 := hml0
  have hown : s.vm.findClass "com/example/plain_tariff/plaintariff/ByteWordsDigitsPinLaw" = some m.cls := findClass_of_methodNamed Bd.named
  have hnm := (name_of_methodNamed Bd.named Bd.method).1
  have hlk : meth.locks = false := BodyLoose.notSynchronized Bd
  have X0 : Stand p l e own_rm4_room s m #[(.long q0), (.int p1), (.int p2)] below meth c s₁ [] 0 0 := Stand.of_body Bd
  have e0 : s₁.heap = h0 := by rw [← hh, Bd.state]; rfl
  have N0 := Fr.nil n0
  show own_Fin p.tables e below s (own_QP (some (.int (own_f4 q0 p1 p2))) h0 n0) own_rm4_room.cells own_rm4_room.slots (s₁.setTop (entryFrame m #[(.long q0), (.int p1), (.int p2)] 5))
  rw [ef_4]
  show own_Fin _ _ _ _ _ _ _ (s₁.setTop (mkF m 0 #[.val (.long q0), .second, .val (.int p1), .val (.int p2), .unset] []))
  refine own_go (fun _ k => XS.iloadN X0.here hx rfl (hb hby d4_0) rfl k) ?_
  show own_Fin _ _ _ _ _ _ _ (s₁.setTop (mkF m 1 #[.val (.long q0), .second, .val (.int p1), .val (.int p2), .unset] [(.int p1)]))
  refine own_go (fun _ k => XS.iloadN X0.here hx rfl (hb hby d4_1) rfl k) ?_
  show own_Fin _ _ _ _ _ _ _ (s₁.setTop (mkF m 2 #[.val (.long q0), .second, .val (.int p1), .val (.int p2), .unset] [(.int p2), (.int p1)]))
  refine own_go (fun _ k => XS.iushr X0.here hx rfl (hb hby d4_2) rfl k) ?_
  show own_Fin _ _ _ _ _ _ _ (s₁.setTop (mkF m 3 #[.val (.long q0), .second, .val (.int p1), .val (.int p2), .unset] [(.int (own_iushr p1 p2))]))
  refine own_go (fun _ k => XS.iconst X0.here hx rfl (hb hby d4_3) k) ?_
  show own_Fin _ _ _ _ _ _ _ (s₁.setTop (mkF m 4 #[.val (.long q0), .second, .val (.int p1), .val (.int p2), .unset] [(.int (1 : Int32)), (.int (own_iushr p1 p2))]))
  refine own_go (fun _ k => XS.iand X0.here hx rfl (hb hby d4_4) rfl k) ?_
  show own_Fin _ _ _ _ _ _ _ (s₁.setTop (mkF m 5 #[.val (.long q0), .second, .val (.int p1), .val (.int p2), .unset] [(.int ((own_iushr p1 p2) &&& (1 : Int32)))]))
  by_cases hc1 : ((own_iushr p1 p2) &&& (1 : Int32)) = (0 : Int32)
  · refine own_go (fun _ k => XS.ifNo X0.here hx rfl (hb hby d4_5) rfl ((if0 _ _).trans (teq hc1).2) k) ?_
    show own_Fin _ _ _ _ _ _ _ (s₁.setTop (mkF m 8 #[.val (.long q0), .second, .val (.int p1), .val (.int p2), .unset] []))
    refine own_go (fun _ k => XS.iconst X0.here hx rfl (hb hby d4_8) k) ?_
    show own_Fin _ _ _ _ _ _ _ (s₁.setTop (mkF m 9 #[.val (.long q0), .second, .val (.int p1), .val (.int p2), .unset] [(.int (1 : Int32))]))
    refine own_ret X0 hx hlk Bd.returns rfl (Or.inl ⟨rfl, by simp, _, rfl⟩) (hb hby d4_9) (Nat.le_of_ble_eq_true rfl) (Nat.le_of_ble_eq_true rfl) ?_
    exact ⟨(own_lf_own_f4_1 (q0 := q0) (p1 := p1) (p2 := p2) hc1), N0, e0⟩
  · refine own_go (fun _ k => XS.ifYes X0.here hx rfl (pc0 := 5) (pc' := 10) rfl (hb hby d4_5) rfl ((if0 _ _).trans (feq hc1).2) (by decide) (by decide) k) ?_
    show own_Fin _ _ _ _ _ _ _ (s₁.setTop (mkF m 10 #[.val (.long q0), .second, .val (.int p1), .val (.int p2), .unset] []))
    refine own_go (fun _ k => XS.lloadN X0.here hx rfl (hb hby d4_10) rfl k) ?_
    show own_Fin _ _ _ _ _ _ _ (s₁.setTop (mkF m 11 #[.val (.long q0), .second, .val (.int p1), .val (.int p2), .unset] [(.long q0)]))
    refine own_go (fun _ k => XS.bipush X0.here hx rfl (hb hby d4_11) k) ?_
    show own_Fin _ _ _ _ _ _ _ (s₁.setTop (mkF m 13 #[.val (.long q0), .second, .val (.int p1), .val (.int p2), .unset] [(.int (8 : Int32)), (.long q0)]))
    refine own_go (fun _ k => XS.iloadN X0.here hx rfl (hb hby d4_13) rfl k) ?_
    show own_Fin _ _ _ _ _ _ _ (s₁.setTop (mkF m 14 #[.val (.long q0), .second, .val (.int p1), .val (.int p2), .unset] [(.int p2), (.int (8 : Int32)), (.long q0)]))
    refine own_go (fun _ k => XS.imul X0.here hx rfl (hb hby d4_14) rfl k) ?_
    show own_Fin _ _ _ _ _ _ _ (s₁.setTop (mkF m 15 #[.val (.long q0), .second, .val (.int p1), .val (.int p2), .unset] [(.int ((8 : Int32) * p2)), (.long q0)]))
    refine own_go (fun _ k => XS.lushr X0.here hx rfl (hb hby d4_15) rfl k) ?_
    show own_Fin _ _ _ _ _ _ _ (s₁.setTop (mkF m 16 #[.val (.long q0), .second, .val (.int p1), .val (.int p2), .unset] [(.long (own_lushr q0 ((8 : Int32) * p2)))]))
    refine own_go (fun _ k => X0.ldc2Long hx hown (mvT hZ (hw _ (List.mem_of_getElem? (i := 10) rfl))) (g := (mkF m 16 #[.val (.long q0), .second, .val (.int p1), .val (.int p2), .unset] [(.long (own_lushr q0 ((8 : Int32) * p2)))])) rfl (hb hby d4_16) _ k) ?_
    show own_Fin _ _ _ _ _ _ _ (s₁.setTop (mkF m 19 #[.val (.long q0), .second, .val (.int p1), .val (.int p2), .unset] [(.long (255 : Int64)), (.long (own_lushr q0 ((8 : Int32) * p2)))]))
    refine own_go (fun _ k => XS.land X0.here hx rfl (hb hby d4_19) rfl k) ?_
    show own_Fin _ _ _ _ _ _ _ (s₁.setTop (mkF m 20 #[.val (.long q0), .second, .val (.int p1), .val (.int p2), .unset] [(.long ((own_lushr q0 ((8 : Int32) * p2)) &&& (255 : Int64)))]))
    refine own_go (fun _ k => XS.l2i X0.here hx rfl (hb hby d4_20) rfl k) ?_
    show own_Fin _ _ _ _ _ _ _ (s₁.setTop (mkF m 21 #[.val (.long q0), .second, .val (.int p1), .val (.int p2), .unset] [(.int (((own_lushr q0 ((8 : Int32) * p2)) &&& (255 : Int64)).toInt32))]))
    refine own_go (fun _ k => XS.istore X0.here hx rfl (hb hby d4_21) rfl (l' := #[.val (.long q0), .second, .val (.int p1), .val (.int p2), .val (.int (((own_lushr q0 ((8 : Int32) * p2)) &&& (255 : Int64)).toInt32))]) rfl k) ?_
    show own_Fin _ _ _ _ _ _ _ (s₁.setTop (mkF m 23 #[.val (.long q0), .second, .val (.int p1), .val (.int p2), .val (.int (((own_lushr q0 ((8 : Int32) * p2)) &&& (255 : Int64)).toInt32))] []))
    generalize hz2 : (((own_lushr q0 ((8 : Int32) * p2)) &&& (255 : Int64)).toInt32) = z2
    show own_Fin _ _ _ _ _ _ _ (s₁.setTop (mkF m 23 #[.val (.long q0), .second, .val (.int p1), .val (.int p2), .val (.int z2)] []))
    refine own_go (fun _ k => XS.iload X0.here hx rfl (hb hby d4_23) rfl k) ?_
    show own_Fin _ _ _ _ _ _ _ (s₁.setTop (mkF m 25 #[.val (.long q0), .second, .val (.int p1), .val (.int p2), .val (.int z2)] [(.int z2)]))
    refine own_go (fun _ k => XS.bipush X0.here hx rfl (hb hby d4_25) k) ?_
    show own_Fin _ _ _ _ _ _ _ (s₁.setTop (mkF m 27 #[.val (.long q0), .second, .val (.int p1), .val (.int p2), .val (.int z2)] [(.int (48 : Int32)), (.int z2)]))
    by_cases hc3 : z2 < (48 : Int32)
    · refine own_go (fun _ k => XS.icmpYes X0.here hx rfl (pc0 := 27) (pc' := 41) rfl (hb hby d4_27) rfl (tlt hc3).1 (by decide) (by decide) k) ?_
      show own_Fin _ _ _ _ _ _ _ (s₁.setTop (mkF m 41 #[.val (.long q0), .second, .val (.int p1), .val (.int p2), .val (.int z2)] []))
      refine own_go (fun _ k => XS.iconst X0.here hx rfl (hb hby d4_41) k) ?_
      show own_Fin _ _ _ _ _ _ _ (s₁.setTop (mkF m 42 #[.val (.long q0), .second, .val (.int p1), .val (.int p2), .val (.int z2)] [(.int (0 : Int32))]))
      refine own_ret X0 hx hlk Bd.returns rfl (Or.inl ⟨rfl, by simp, _, rfl⟩) (hb hby d4_42) (Nat.le_of_ble_eq_true rfl) (Nat.le_of_ble_eq_true rfl) ?_
      exact ⟨(own_lf_own_f4_2 (q0 := q0) (p1 := p1) (p2 := p2) hz2 hc1 hc3), N0, e0⟩
    · refine own_go (fun _ k => XS.icmpNo X0.here hx rfl (hb hby d4_27) rfl (flt hc3).1 k) ?_
      show own_Fin _ _ _ _ _ _ _ (s₁.setTop (mkF m 30 #[.val (.long q0), .second, .val (.int p1), .val (.int p2), .val (.int z2)] []))
      refine own_go (fun _ k => XS.iload X0.here hx rfl (hb hby d4_30) rfl k) ?_
      show own_Fin _ _ _ _ _ _ _ (s₁.setTop (mkF m 32 #[.val (.long q0), .second, .val (.int p1), .val (.int p2), .val (.int z2)] [(.int z2)]))
      refine own_go (fun _ k => XS.bipush X0.here hx rfl (hb hby d4_32) k) ?_
      show own_Fin _ _ _ _ _ _ _ (s₁.setTop (mkF m 34 #[.val (.long q0), .second, .val (.int p1), .val (.int p2), .val (.int z2)] [(.int (57 : Int32)), (.int z2)]))
      by_cases hc4 : (57 : Int32) < z2
      · refine own_go (fun _ k => XS.icmpYes X0.here hx rfl (pc0 := 34) (pc' := 41) rfl (hb hby d4_34) rfl (tlt hc4).2.2.1 (by decide) (by decide) k) ?_
        show own_Fin _ _ _ _ _ _ _ (s₁.setTop (mkF m 41 #[.val (.long q0), .second, .val (.int p1), .val (.int p2), .val (.int z2)] []))
        refine own_go (fun _ k => XS.iconst X0.here hx rfl (hb hby d4_41) k) ?_
        show own_Fin _ _ _ _ _ _ _ (s₁.setTop (mkF m 42 #[.val (.long q0), .second, .val (.int p1), .val (.int p2), .val (.int z2)] [(.int (0 : Int32))]))
        refine own_ret X0 hx hlk Bd.returns rfl (Or.inl ⟨rfl, by simp, _, rfl⟩) (hb hby d4_42) (Nat.le_of_ble_eq_true rfl) (Nat.le_of_ble_eq_true rfl) ?_
        exact ⟨(own_lf_own_f4_3 (q0 := q0) (p1 := p1) (p2 := p2) hz2 hc1 hc3 hc4), N0, e0⟩
      · refine own_go (fun _ k => XS.icmpNo X0.here hx rfl (hb hby d4_34) rfl (flt hc4).2.2.1 k) ?_
        show own_Fin _ _ _ _ _ _ _ (s₁.setTop (mkF m 37 #[.val (.long q0), .second, .val (.int p1), .val (.int p2), .val (.int z2)] []))
        refine own_go (fun _ k => XS.iconst X0.here hx rfl (hb hby d4_37) k) ?_
        show own_Fin _ _ _ _ _ _ _ (s₁.setTop (mkF m 38 #[.val (.long q0), .second, .val (.int p1), .val (.int p2), .val (.int z2)] [(.int (1 : Int32))]))
        refine own_go (fun _ k => XS.goto X0.here hx rfl (pc0 := 38) (pc' := 42) rfl (hb hby d4_38) (by decide) (by decide) k) ?_
        show own_Fin _ _ _ _ _ _ _ (s₁.setTop (mkF m 42 #[.val (.long q0), .second, .val (.int p1), .val (.int p2), .val (.int z2)] [(.int (1 : Int32))]))
        refine own_ret X0 hx hlk Bd.returns rfl (Or.inl ⟨rfl, by simp, _, rfl⟩) (hb hby d4_42) (Nat.le_of_ble_eq_true rfl) (Nat.le_of_ble_eq_true rfl) ?_
        exact ⟨(own_lf_own_f4_4 (q0 := q0) (p1 := p1) (p2 := p2) hz2 hc1 hc3 hc4), N0, e0⟩
theorem d5_0 : decode method_6_code 0 = .ok (.iload_n 2, 1) := by decide +kernel
theorem d5_1 : decode method_6_code 1 = .ok (.iload_n 3, 1) := by decide +kernel
theorem d5_2 : decode method_6_code 2 = .ok (.iushr, 1) := by decide +kernel
theorem d5_3 : decode method_6_code 3 = .ok (.iconst 1, 1) := by decide +kernel
theorem d5_4 : decode method_6_code 4 = .ok (.iand, 1) := by decide +kernel
theorem d5_5 : decode method_6_code 5 = .ok (.ifCond .ne 5, 3) := by decide +kernel
theorem d5_8 : decode method_6_code 8 = .ok (.lconst 0, 1) := by decide +kernel
theorem d5_9 : decode method_6_code 9 = .ok (.lreturn, 1) := by decide +kernel
theorem d5_10 : decode method_6_code 10 = .ok (.lload_n 0, 1) := by decide +kernel
theorem d5_11 : decode method_6_code 11 = .ok (.bipush 8, 2) := by decide +kernel
theorem d5_13 : decode method_6_code 13 = .ok (.iload_n 3, 1) := by decide +kernel
theorem d5_14 : decode method_6_code 14 = .ok (.imul, 1) := by decide +kernel
theorem d5_15 : decode method_6_code 15 = .ok (.lushr, 1) := by decide +kernel
theorem d5_16 : decode method_6_code 16 = .ok (.ldc2_w 7, 3) := by decide +kernel
theorem d5_19 : decode method_6_code 19 = .ok (.land, 1) := by decide +kernel
theorem d5_20 : decode method_6_code 20 = .ok (.l2i, 1) := by decide +kernel
theorem d5_21 : decode method_6_code 21 = .ok (.istore 4, 2) := by decide +kernel
theorem d5_23 : decode method_6_code 23 = .ok (.iload 4, 2) := by decide +kernel
theorem d5_25 : decode method_6_code 25 = .ok (.bipush 48, 2) := by decide +kernel
theorem d5_27 : decode method_6_code 27 = .ok (.isub, 1) := by decide +kernel
theorem d5_28 : decode method_6_code 28 = .ok (.i2l, 1) := by decide +kernel
theorem d5_29 : decode method_6_code 29 = .ok (.bipush 8, 2) := by decide +kernel
theorem d5_31 : decode method_6_code 31 = .ok (.iload_n 3, 1) := by decide +kernel
theorem d5_32 : decode method_6_code 32 = .ok (.imul, 1) := by decide +kernel
theorem d5_33 : decode method_6_code 33 = .ok (.lshl, 1) := by decide +kernel
theorem d5_34 : decode method_6_code 34 = .ok (.lreturn, 1) := by decide +kernel
theorem pn_5 : plainName "com/example/plain_tariff/plaintariff/ByteWordsDigitsPinLaw" = true := by first | (simp [plainName, overriddenIn]; done) | decide +kernel
theorem ef_5 (m : MethodId) (q0 : Int64) (p1 : Int32) (p2 : Int32) : entryFrame m #[(.long q0), (.int p1), (.int p2)] 5 = mkF m 0 #[.val (.long q0), .second, .val (.int p1), .val (.int p2), .unset] [] := by first | (simp [entryFrame, mkF, argsToLocals, Value.category]; done) | rfl
def own_rm5_room : Room := { frames := 0, cells := 0, slots := 0, locals := 0 }
def own_f5 (q0 : Int64) (p1 : Int32) (p2 : Int32) : Int64 := (if ((own_iushr p1 p2) &&& (1 : Int32)) = (0 : Int32) then ((0 : Int64)) else (let z2 := (((own_lushr q0 ((8 : Int32) * p2)) &&& (255 : Int64)).toInt32); (own_lshl ((z2 - (48 : Int32)).toInt64) ((8 : Int32) * p2))))
theorem own_lf_own_f5_1 {q0 : Int64} {p1 : Int32} {p2 : Int32} (hc1 : ((own_iushr p1 p2) &&& (1 : Int32)) = (0 : Int32)) : (some (.long (0 : Int64)) : Option Value) = some (.long (own_f5 q0 p1 p2)) := by
  first | (simp only [own_f5, if_pos hc1]; done) | (simp only [own_f5, if_pos hc1]; rfl) | rfl
theorem own_lf_own_f5_2 {q0 : Int64} {p1 : Int32} {p2 : Int32} {z2 : Int32} (hz2 : (((own_lushr q0 ((8 : Int32) * p2)) &&& (255 : Int64)).toInt32) = z2) (hc1 : ¬ (((own_iushr p1 p2) &&& (1 : Int32)) = (0 : Int32))) : (some (.long (own_lshl ((z2 - (48 : Int32)).toInt64) ((8 : Int32) * p2))) : Option Value) = some (.long (own_f5 q0 p1 p2)) := by
  subst hz2
  first | (simp only [own_f5, if_neg hc1]; done) | (simp only [own_f5, if_neg hc1]; rfl) | rfl
set_option maxRecDepth 65536 in
set_option maxHeartbeats 40000000 in
theorem rm5 (l : Launch) (Z : State) (a0 : Array Value) (hw : ∀ d ∈ tables_1, d.before a0 Z = true) (ws : List Jvm.Cond) (q0 : Int64) (p1 : Int32) (p2 : Int32) (h0 : Heap) (n0 : Nat) (Z0 : n0 ≤ h0.size) :
    MetFree l (⟨"com/example/plain_tariff/plaintariff/ByteWordsDigitsPinLaw", "val", "(JII)J"⟩ : MethodName) (head1 (Jvm.Cond.code (⟨"com/example/plain_tariff/plaintariff/ByteWordsDigitsPinLaw", "val", "(JII)J"⟩ : MethodName) method_6_code 5 (some .long) :: ws) own_rm5_room) (fun a U => a = #[(.long q0), (.int p1), (.int p2)] ∧ Z.Warmed39 U.vm ∧ U.heap = h0) (fun _ _ _ _ _ => True) (fun _ U o U' => ∃ v L, o = .returned v ∧ own_QP (some (.long (own_f5 q0 p1 p2))) h0 n0 v U'.heap L ∧ FrameEnd U o U' L own_rm5_room.cells own_rm5_room.slots) := by
  refine MetFree.of_bodySF (plainFor_of_name pn_5) hisR ?_
  intro p e s m args below meth c s₁ Bd hml0 hP hK
  obtain ⟨rfl, hZ, hh⟩ := hP
  have hx := Bd.exec
  have hby := Bd.bytes
  have hml : c.maxLocals = 5 := hml0
  have hown : s.vm.findClass "com/example/plain_tariff/plaintariff/ByteWordsDigitsPinLaw" = some m.cls := findClass_of_methodNamed Bd.named
  have hnm := (name_of_methodNamed Bd.named Bd.method).1
  have hlk : meth.locks = false := BodyLoose.notSynchronized Bd
  have X0 : Stand p l e own_rm5_room s m #[(.long q0), (.int p1), (.int p2)] below meth c s₁ [] 0 0 := Stand.of_body Bd
  have e0 : s₁.heap = h0 := by rw [← hh, Bd.state]; rfl
  have N0 := Fr.nil n0
  show own_Fin p.tables e below s (own_QP (some (.long (own_f5 q0 p1 p2))) h0 n0) own_rm5_room.cells own_rm5_room.slots (s₁.setTop (entryFrame m #[(.long q0), (.int p1), (.int p2)] 5))
  rw [ef_5]
  show own_Fin _ _ _ _ _ _ _ (s₁.setTop (mkF m 0 #[.val (.long q0), .second, .val (.int p1), .val (.int p2), .unset] []))
  refine own_go (fun _ k => XS.iloadN X0.here hx rfl (hb hby d5_0) rfl k) ?_
  show own_Fin _ _ _ _ _ _ _ (s₁.setTop (mkF m 1 #[.val (.long q0), .second, .val (.int p1), .val (.int p2), .unset] [(.int p1)]))
  refine own_go (fun _ k => XS.iloadN X0.here hx rfl (hb hby d5_1) rfl k) ?_
  show own_Fin _ _ _ _ _ _ _ (s₁.setTop (mkF m 2 #[.val (.long q0), .second, .val (.int p1), .val (.int p2), .unset] [(.int p2), (.int p1)]))
  refine own_go (fun _ k => XS.iushr X0.here hx rfl (hb hby d5_2) rfl k) ?_
  show own_Fin _ _ _ _ _ _ _ (s₁.setTop (mkF m 3 #[.val (.long q0), .second, .val (.int p1), .val (.int p2), .unset] [(.int (own_iushr p1 p2))]))
  refine own_go (fun _ k => XS.iconst X0.here hx rfl (hb hby d5_3) k) ?_
  show own_Fin _ _ _ _ _ _ _ (s₁.setTop (mkF m 4 #[.val (.long q0), .second, .val (.int p1), .val (.int p2), .unset] [(.int (1 : Int32)), (.int (own_iushr p1 p2))]))
  refine own_go (fun _ k => XS.iand X0.here hx rfl (hb hby d5_4) rfl k) ?_
  show own_Fin _ _ _ _ _ _ _ (s₁.setTop (mkF m 5 #[.val (.long q0), .second, .val (.int p1), .val (.int p2), .unset] [(.int ((own_iushr p1 p2) &&& (1 : Int32)))]))
  by_cases hc1 : ((own_iushr p1 p2) &&& (1 : Int32)) = (0 : Int32)
  · refine own_go (fun _ k => XS.ifNo X0.here hx rfl (hb hby d5_5) rfl ((if0 _ _).trans (teq hc1).2) k) ?_
    show own_Fin _ _ _ _ _ _ _ (s₁.setTop (mkF m 8 #[.val (.long q0), .second, .val (.int p1), .val (.int p2), .unset] []))
    refine own_go (fun _ k => XS.lconst X0.here hx rfl (hb hby d5_8) k) ?_
    show own_Fin _ _ _ _ _ _ _ (s₁.setTop (mkF m 9 #[.val (.long q0), .second, .val (.int p1), .val (.int p2), .unset] [(.long (0 : Int64))]))
    refine own_ret X0 hx hlk Bd.returns rfl (Or.inr (Or.inl ⟨rfl, rfl, _, rfl⟩)) (hb hby d5_9) (Nat.le_of_ble_eq_true rfl) (Nat.le_of_ble_eq_true rfl) ?_
    exact ⟨(own_lf_own_f5_1 (q0 := q0) (p1 := p1) (p2 := p2) hc1), N0, e0⟩
  · refine own_go (fun _ k => XS.ifYes X0.here hx rfl (pc0 := 5) (pc' := 10) rfl (hb hby d5_5) rfl ((if0 _ _).trans (feq hc1).2) (by decide) (by decide) k) ?_
    show own_Fin _ _ _ _ _ _ _ (s₁.setTop (mkF m 10 #[.val (.long q0), .second, .val (.int p1), .val (.int p2), .unset] []))
    refine own_go (fun _ k => XS.lloadN X0.here hx rfl (hb hby d5_10) rfl k) ?_
    show own_Fin _ _ _ _ _ _ _ (s₁.setTop (mkF m 11 #[.val (.long q0), .second, .val (.int p1), .val (.int p2), .unset] [(.long q0)]))
    refine own_go (fun _ k => XS.bipush X0.here hx rfl (hb hby d5_11) k) ?_
    show own_Fin _ _ _ _ _ _ _ (s₁.setTop (mkF m 13 #[.val (.long q0), .second, .val (.int p1), .val (.int p2), .unset] [(.int (8 : Int32)), (.long q0)]))
    refine own_go (fun _ k => XS.iloadN X0.here hx rfl (hb hby d5_13) rfl k) ?_
    show own_Fin _ _ _ _ _ _ _ (s₁.setTop (mkF m 14 #[.val (.long q0), .second, .val (.int p1), .val (.int p2), .unset] [(.int p2), (.int (8 : Int32)), (.long q0)]))
    refine own_go (fun _ k => XS.imul X0.here hx rfl (hb hby d5_14) rfl k) ?_
    show own_Fin _ _ _ _ _ _ _ (s₁.setTop (mkF m 15 #[.val (.long q0), .second, .val (.int p1), .val (.int p2), .unset] [(.int ((8 : Int32) * p2)), (.long q0)]))
    refine own_go (fun _ k => XS.lushr X0.here hx rfl (hb hby d5_15) rfl k) ?_
    show own_Fin _ _ _ _ _ _ _ (s₁.setTop (mkF m 16 #[.val (.long q0), .second, .val (.int p1), .val (.int p2), .unset] [(.long (own_lushr q0 ((8 : Int32) * p2)))]))
    refine own_go (fun _ k => X0.ldc2Long hx hown (mvT hZ (hw _ (List.mem_of_getElem? (i := 10) rfl))) (g := (mkF m 16 #[.val (.long q0), .second, .val (.int p1), .val (.int p2), .unset] [(.long (own_lushr q0 ((8 : Int32) * p2)))])) rfl (hb hby d5_16) _ k) ?_
    show own_Fin _ _ _ _ _ _ _ (s₁.setTop (mkF m 19 #[.val (.long q0), .second, .val (.int p1), .val (.int p2), .unset] [(.long (255 : Int64)), (.long (own_lushr q0 ((8 : Int32) * p2)))]))
    refine own_go (fun _ k => XS.land X0.here hx rfl (hb hby d5_19) rfl k) ?_
    show own_Fin _ _ _ _ _ _ _ (s₁.setTop (mkF m 20 #[.val (.long q0), .second, .val (.int p1), .val (.int p2), .unset] [(.long ((own_lushr q0 ((8 : Int32) * p2)) &&& (255 : Int64)))]))
    refine own_go (fun _ k => XS.l2i X0.here hx rfl (hb hby d5_20) rfl k) ?_
    show own_Fin _ _ _ _ _ _ _ (s₁.setTop (mkF m 21 #[.val (.long q0), .second, .val (.int p1), .val (.int p2), .unset] [(.int (((own_lushr q0 ((8 : Int32) * p2)) &&& (255 : Int64)).toInt32))]))
    refine own_go (fun _ k => XS.istore X0.here hx rfl (hb hby d5_21) rfl (l' := #[.val (.long q0), .second, .val (.int p1), .val (.int p2), .val (.int (((own_lushr q0 ((8 : Int32) * p2)) &&& (255 : Int64)).toInt32))]) rfl k) ?_
    show own_Fin _ _ _ _ _ _ _ (s₁.setTop (mkF m 23 #[.val (.long q0), .second, .val (.int p1), .val (.int p2), .val (.int (((own_lushr q0 ((8 : Int32) * p2)) &&& (255 : Int64)).toInt32))] []))
    generalize hz2 : (((own_lushr q0 ((8 : Int32) * p2)) &&& (255 : Int64)).toInt32) = z2
    show own_Fin _ _ _ _ _ _ _ (s₁.setTop (mkF m 23 #[.val (.long q0), .second, .val (.int p1), .val (.int p2), .val (.int z2)] []))
    refine own_go (fun _ k => XS.iload X0.here hx rfl (hb hby d5_23) rfl k) ?_
    show own_Fin _ _ _ _ _ _ _ (s₁.setTop (mkF m 25 #[.val (.long q0), .second, .val (.int p1), .val (.int p2), .val (.int z2)] [(.int z2)]))
    refine own_go (fun _ k => XS.bipush X0.here hx rfl (hb hby d5_25) k) ?_
    show own_Fin _ _ _ _ _ _ _ (s₁.setTop (mkF m 27 #[.val (.long q0), .second, .val (.int p1), .val (.int p2), .val (.int z2)] [(.int (48 : Int32)), (.int z2)]))
    refine own_go (fun _ k => XS.isub X0.here hx rfl (hb hby d5_27) rfl k) ?_
    show own_Fin _ _ _ _ _ _ _ (s₁.setTop (mkF m 28 #[.val (.long q0), .second, .val (.int p1), .val (.int p2), .val (.int z2)] [(.int (z2 - (48 : Int32)))]))
    refine own_go (fun _ k => XS.i2l X0.here hx rfl (hb hby d5_28) rfl k) ?_
    show own_Fin _ _ _ _ _ _ _ (s₁.setTop (mkF m 29 #[.val (.long q0), .second, .val (.int p1), .val (.int p2), .val (.int z2)] [(.long ((z2 - (48 : Int32)).toInt64))]))
    refine own_go (fun _ k => XS.bipush X0.here hx rfl (hb hby d5_29) k) ?_
    show own_Fin _ _ _ _ _ _ _ (s₁.setTop (mkF m 31 #[.val (.long q0), .second, .val (.int p1), .val (.int p2), .val (.int z2)] [(.int (8 : Int32)), (.long ((z2 - (48 : Int32)).toInt64))]))
    refine own_go (fun _ k => XS.iloadN X0.here hx rfl (hb hby d5_31) rfl k) ?_
    show own_Fin _ _ _ _ _ _ _ (s₁.setTop (mkF m 32 #[.val (.long q0), .second, .val (.int p1), .val (.int p2), .val (.int z2)] [(.int p2), (.int (8 : Int32)), (.long ((z2 - (48 : Int32)).toInt64))]))
    refine own_go (fun _ k => XS.imul X0.here hx rfl (hb hby d5_32) rfl k) ?_
    show own_Fin _ _ _ _ _ _ _ (s₁.setTop (mkF m 33 #[.val (.long q0), .second, .val (.int p1), .val (.int p2), .val (.int z2)] [(.int ((8 : Int32) * p2)), (.long ((z2 - (48 : Int32)).toInt64))]))
    refine own_go (fun _ k => XS.lshl X0.here hx rfl (hb hby d5_33) rfl k) ?_
    show own_Fin _ _ _ _ _ _ _ (s₁.setTop (mkF m 34 #[.val (.long q0), .second, .val (.int p1), .val (.int p2), .val (.int z2)] [(.long (own_lshl ((z2 - (48 : Int32)).toInt64) ((8 : Int32) * p2)))]))
    refine own_ret X0 hx hlk Bd.returns rfl (Or.inr (Or.inl ⟨rfl, rfl, _, rfl⟩)) (hb hby d5_34) (Nat.le_of_ble_eq_true rfl) (Nat.le_of_ble_eq_true rfl) ?_
    exact ⟨(own_lf_own_f5_2 (q0 := q0) (p1 := p1) (p2 := p2) hz2 hc1), N0, e0⟩
theorem d6_0 : decode prog_6_method_11_code 0 = .ok (.lload_n 2, 1) := by decide +kernel
theorem d6_1 : decode prog_6_method_11_code 1 = .ok (.ldc2_w 67, 3) := by decide +kernel
theorem d6_4 : decode prog_6_method_11_code 4 = .ok (.land, 1) := by decide +kernel
theorem d6_5 : decode prog_6_method_11_code 5 = .ok (.lstore 4, 2) := by decide +kernel
theorem d6_7 : decode prog_6_method_11_code 7 = .ok (.lload_n 2, 1) := by decide +kernel
theorem d6_8 : decode prog_6_method_11_code 8 = .ok (.ldc2_w 69, 3) := by decide +kernel
theorem d6_11 : decode prog_6_method_11_code 11 = .ok (.land, 1) := by decide +kernel
theorem d6_12 : decode prog_6_method_11_code 12 = .ok (.lstore 6, 2) := by decide +kernel
theorem d6_14 : decode prog_6_method_11_code 14 = .ok (.lload_n 0, 1) := by decide +kernel
theorem d6_15 : decode prog_6_method_11_code 15 = .ok (.lload 4, 2) := by decide +kernel
theorem d6_17 : decode prog_6_method_11_code 17 = .ok (.land, 1) := by decide +kernel
theorem d6_18 : decode prog_6_method_11_code 18 = .ok (.lload 6, 2) := by decide +kernel
theorem d6_20 : decode prog_6_method_11_code 20 = .ok (.lcmp, 1) := by decide +kernel
theorem d6_21 : decode prog_6_method_11_code 21 = .ok (.ifCond .ne 23, 3) := by decide +kernel
theorem d6_24 : decode prog_6_method_11_code 24 = .ok (.lload_n 0, 1) := by decide +kernel
theorem d6_25 : decode prog_6_method_11_code 25 = .ok (.lload_n 2, 1) := by decide +kernel
theorem d6_26 : decode prog_6_method_11_code 26 = .ok (.ldc2_w 71, 3) := by decide +kernel
theorem d6_29 : decode prog_6_method_11_code 29 = .ok (.land, 1) := by decide +kernel
theorem d6_30 : decode prog_6_method_11_code 30 = .ok (.ladd, 1) := by decide +kernel
theorem d6_31 : decode prog_6_method_11_code 31 = .ok (.lload 4, 2) := by decide +kernel
theorem d6_33 : decode prog_6_method_11_code 33 = .ok (.land, 1) := by decide +kernel
theorem d6_34 : decode prog_6_method_11_code 34 = .ok (.lload 6, 2) := by decide +kernel
theorem d6_36 : decode prog_6_method_11_code 36 = .ok (.lcmp, 1) := by decide +kernel
theorem d6_37 : decode prog_6_method_11_code 37 = .ok (.ifCond .ne 7, 3) := by decide +kernel
theorem d6_40 : decode prog_6_method_11_code 40 = .ok (.iconst 1, 1) := by decide +kernel
theorem d6_41 : decode prog_6_method_11_code 41 = .ok (.goto 4, 3) := by decide +kernel
theorem d6_44 : decode prog_6_method_11_code 44 = .ok (.iconst 0, 1) := by decide +kernel
theorem d6_45 : decode prog_6_method_11_code 45 = .ok (.istore 8, 2) := by decide +kernel
theorem d6_47 : decode prog_6_method_11_code 47 = .ok (.iload 8, 2) := by decide +kernel
theorem d6_49 : decode prog_6_method_11_code 49 = .ok (.ifCond .eq 13, 3) := by decide +kernel
theorem d6_52 : decode prog_6_method_11_code 52 = .ok (.lload_n 0, 1) := by decide +kernel
theorem d6_53 : decode prog_6_method_11_code 53 = .ok (.lload_n 2, 1) := by decide +kernel
theorem d6_54 : decode prog_6_method_11_code 54 = .ok (.land, 1) := by decide +kernel
theorem d6_55 : decode prog_6_method_11_code 55 = .ok (.ldc2_w 73, 3) := by decide +kernel
theorem d6_58 : decode prog_6_method_11_code 58 = .ok (.land, 1) := by decide +kernel
theorem d6_59 : decode prog_6_method_11_code 59 = .ok (.goto 6, 3) := by decide +kernel
theorem d6_62 : decode prog_6_method_11_code 62 = .ok (.ldc2_w 57, 3) := by decide +kernel
theorem d6_65 : decode prog_6_method_11_code 65 = .ok (.lreturn, 1) := by decide +kernel
theorem pn_6 : plainName "com/example/plain_tariff/plaintariff/ByteWords" = true := by first | (simp [plainName, overriddenIn]; done) | decide +kernel
theorem ef_6 (m : MethodId) (q0 : Int64) (q1 : Int64) : entryFrame m #[(.long q0), (.long q1)] 9 = mkF m 0 #[.val (.long q0), .second, .val (.long q1), .second, .unset, .unset, .unset, .unset, .unset] [] := by first | (simp [entryFrame, mkF, argsToLocals, Value.category]; done) | rfl
def own_rm6_room : Room := { frames := 0, cells := 0, slots := 0, locals := 0 }
def own_f6 (q0 : Int64) (q1 : Int64) : Int64 := let z1 := (q1 &&& (-1085102592571150096 : Int64)); let z2 := (q1 &&& (3472328296227680304 : Int64)); let z7 := (if (q0 &&& z1) = z2 then (if ((q0 + (q1 &&& (434041037028460038 : Int64))) &&& z1) = z2 then (1 : Int32) else (0 : Int32)) else (0 : Int32)); (if z7 = (0 : Int32) then ((-1 : Int64)) else (((q0 &&& q1) &&& (1085102592571150095 : Int64))))
theorem own_lf_own_f6_1 {q0 : Int64} {q1 : Int64} {z1 : Int64} {z2 : Int64} {z7 : Int32} (hz1 : (q1 &&& (-1085102592571150096 : Int64)) = z1) (hz2 : (q1 &&& (3472328296227680304 : Int64)) = z2) (hz7 : (if (q0 &&& z1) = z2 then (if ((q0 + (q1 &&& (434041037028460038 : Int64))) &&& z1) = z2 then (1 : Int32) else (0 : Int32)) else (0 : Int32)) = z7) (hc8 : z7 = (0 : Int32)) : (some (.long (-1 : Int64)) : Option Value) = some (.long (own_f6 q0 q1)) := by
  subst hz7
  subst hz2
  subst hz1
  first | (simp only [own_f6, if_pos hc8]; done) | (simp only [own_f6, if_pos hc8]; rfl) | rfl
theorem own_lf_own_f6_2 {q0 : Int64} {q1 : Int64} {z1 : Int64} {z2 : Int64} {z7 : Int32} (hz1 : (q1 &&& (-1085102592571150096 : Int64)) = z1) (hz2 : (q1 &&& (3472328296227680304 : Int64)) = z2) (hz7 : (if (q0 &&& z1) = z2 then (if ((q0 + (q1 &&& (434041037028460038 : Int64))) &&& z1) = z2 then (1 : Int32) else (0 : Int32)) else (0 : Int32)) = z7) (hc8 : ¬ (z7 = (0 : Int32))) : (some (.long ((q0 &&& q1) &&& (1085102592571150095 : Int64))) : Option Value) = some (.long (own_f6 q0 q1)) := by
  subst hz7
  subst hz2
  subst hz1
  first | (simp only [own_f6, if_neg hc8]; done) | (simp only [own_f6, if_neg hc8]; rfl) | rfl
set_option maxRecDepth 65536 in
set_option maxHeartbeats 40000000 in
theorem rm6 (l : Launch) (Z : State) (a0 : Array Value) (hw : ∀ d ∈ tables_1, d.before a0 Z = true) (ws : List Jvm.Cond) (q0 : Int64) (q1 : Int64) (h0 : Heap) (n0 : Nat) (Z0 : n0 ≤ h0.size) :
    MetFree l (⟨"com/example/plain_tariff/plaintariff/ByteWords", "digits", "(JJ)J"⟩ : MethodName) (head1 (Jvm.Cond.code (⟨"com/example/plain_tariff/plaintariff/ByteWords", "digits", "(JJ)J"⟩ : MethodName) prog_6_method_11_code 9 (some .long) :: ws) own_rm6_room) (fun a U => a = #[(.long q0), (.long q1)] ∧ Z.Warmed39 U.vm ∧ U.heap = h0) (fun _ _ _ _ _ => True) (fun _ U o U' => ∃ v L, o = .returned v ∧ own_QP (some (.long (own_f6 q0 q1))) h0 n0 v U'.heap L ∧ FrameEnd U o U' L own_rm6_room.cells own_rm6_room.slots) := by
  refine MetFree.of_bodySF (plainFor_of_name pn_6) hisR ?_
  intro p e s m args below meth c s₁ Bd hml0 hP hK
  obtain ⟨rfl, hZ, hh⟩ := hP
  have hx := Bd.exec
  have hby := Bd.bytes
  have hml : c.maxLocals = 9 := hml0
  have hown : s.vm.findClass "com/example/plain_tariff/plaintariff/ByteWords" = some m.cls := findClass_of_methodNamed Bd.named
  have hnm := (name_of_methodNamed Bd.named Bd.method).1
  have hlk : meth.locks = false := BodyLoose.notSynchronized Bd
  have X0 : Stand p l e own_rm6_room s m #[(.long q0), (.long q1)] below meth c s₁ [] 0 0 := Stand.of_body Bd
  have e0 : s₁.heap = h0 := by rw [← hh, Bd.state]; rfl
  have N0 := Fr.nil n0
  show own_Fin p.tables e below s (own_QP (some (.long (own_f6 q0 q1))) h0 n0) own_rm6_room.cells own_rm6_room.slots (s₁.setTop (entryFrame m #[(.long q0), (.long q1)] 9))
  rw [ef_6]
  show own_Fin _ _ _ _ _ _ _ (s₁.setTop (mkF m 0 #[.val (.long q0), .second, .val (.long q1), .second, .unset, .unset, .unset, .unset, .unset] []))
  refine own_go (fun _ k => XS.lloadN X0.here hx rfl (hb hby d6_0) rfl k) ?_
  show own_Fin _ _ _ _ _ _ _ (s₁.setTop (mkF m 1 #[.val (.long q0), .second, .val (.long q1), .second, .unset, .unset, .unset, .unset, .unset] [(.long q1)]))
  refine own_go (fun _ k => X0.ldc2Long hx hown (mvT hZ (hw _ (List.mem_of_getElem? (i := 23) rfl))) (g := (mkF m 1 #[.val (.long q0), .second, .val (.long q1), .second, .unset, .unset, .unset, .unset, .unset] [(.long q1)])) rfl (hb hby d6_1) _ k) ?_
  show own_Fin _ _ _ _ _ _ _ (s₁.setTop (mkF m 4 #[.val (.long q0), .second, .val (.long q1), .second, .unset, .unset, .unset, .unset, .unset] [(.long (-1085102592571150096 : Int64)), (.long q1)]))
  refine own_go (fun _ k => XS.land X0.here hx rfl (hb hby d6_4) rfl k) ?_
  show own_Fin _ _ _ _ _ _ _ (s₁.setTop (mkF m 5 #[.val (.long q0), .second, .val (.long q1), .second, .unset, .unset, .unset, .unset, .unset] [(.long (q1 &&& (-1085102592571150096 : Int64)))]))
  refine own_go (fun _ k => XS.lstore X0.here hx rfl (hb hby d6_5) rfl (l' := #[.val (.long q0), .second, .val (.long q1), .second, .val (.long (q1 &&& (-1085102592571150096 : Int64))), .second, .unset, .unset, .unset]) rfl k) ?_
  show own_Fin _ _ _ _ _ _ _ (s₁.setTop (mkF m 7 #[.val (.long q0), .second, .val (.long q1), .second, .val (.long (q1 &&& (-1085102592571150096 : Int64))), .second, .unset, .unset, .unset] []))
  generalize hz1 : (q1 &&& (-1085102592571150096 : Int64)) = z1
  show own_Fin _ _ _ _ _ _ _ (s₁.setTop (mkF m 7 #[.val (.long q0), .second, .val (.long q1), .second, .val (.long z1), .second, .unset, .unset, .unset] []))
  refine own_go (fun _ k => XS.lloadN X0.here hx rfl (hb hby d6_7) rfl k) ?_
  show own_Fin _ _ _ _ _ _ _ (s₁.setTop (mkF m 8 #[.val (.long q0), .second, .val (.long q1), .second, .val (.long z1), .second, .unset, .unset, .unset] [(.long q1)]))
  refine own_go (fun _ k => X0.ldc2Long hx hown (mvT hZ (hw _ (List.mem_of_getElem? (i := 24) rfl))) (g := (mkF m 8 #[.val (.long q0), .second, .val (.long q1), .second, .val (.long z1), .second, .unset, .unset, .unset] [(.long q1)])) rfl (hb hby d6_8) _ k) ?_
  show own_Fin _ _ _ _ _ _ _ (s₁.setTop (mkF m 11 #[.val (.long q0), .second, .val (.long q1), .second, .val (.long z1), .second, .unset, .unset, .unset] [(.long (3472328296227680304 : Int64)), (.long q1)]))
  refine own_go (fun _ k => XS.land X0.here hx rfl (hb hby d6_11) rfl k) ?_
  show own_Fin _ _ _ _ _ _ _ (s₁.setTop (mkF m 12 #[.val (.long q0), .second, .val (.long q1), .second, .val (.long z1), .second, .unset, .unset, .unset] [(.long (q1 &&& (3472328296227680304 : Int64)))]))
  refine own_go (fun _ k => XS.lstore X0.here hx rfl (hb hby d6_12) rfl (l' := #[.val (.long q0), .second, .val (.long q1), .second, .val (.long z1), .second, .val (.long (q1 &&& (3472328296227680304 : Int64))), .second, .unset]) rfl k) ?_
  show own_Fin _ _ _ _ _ _ _ (s₁.setTop (mkF m 14 #[.val (.long q0), .second, .val (.long q1), .second, .val (.long z1), .second, .val (.long (q1 &&& (3472328296227680304 : Int64))), .second, .unset] []))
  generalize hz2 : (q1 &&& (3472328296227680304 : Int64)) = z2
  show own_Fin _ _ _ _ _ _ _ (s₁.setTop (mkF m 14 #[.val (.long q0), .second, .val (.long q1), .second, .val (.long z1), .second, .val (.long z2), .second, .unset] []))
  refine own_go (fun _ k => XS.lloadN X0.here hx rfl (hb hby d6_14) rfl k) ?_
  show own_Fin _ _ _ _ _ _ _ (s₁.setTop (mkF m 15 #[.val (.long q0), .second, .val (.long q1), .second, .val (.long z1), .second, .val (.long z2), .second, .unset] [(.long q0)]))
  refine own_go (fun _ k => XS.lload X0.here hx rfl (hb hby d6_15) rfl k) ?_
  show own_Fin _ _ _ _ _ _ _ (s₁.setTop (mkF m 17 #[.val (.long q0), .second, .val (.long q1), .second, .val (.long z1), .second, .val (.long z2), .second, .unset] [(.long z1), (.long q0)]))
  refine own_go (fun _ k => XS.land X0.here hx rfl (hb hby d6_17) rfl k) ?_
  show own_Fin _ _ _ _ _ _ _ (s₁.setTop (mkF m 18 #[.val (.long q0), .second, .val (.long q1), .second, .val (.long z1), .second, .val (.long z2), .second, .unset] [(.long (q0 &&& z1))]))
  refine own_go (fun _ k => XS.lload X0.here hx rfl (hb hby d6_18) rfl k) ?_
  show own_Fin _ _ _ _ _ _ _ (s₁.setTop (mkF m 20 #[.val (.long q0), .second, .val (.long q1), .second, .val (.long z1), .second, .val (.long z2), .second, .unset] [(.long z2), (.long (q0 &&& z1))]))
  refine own_go (fun _ k => XS.lcmp X0.here hx rfl (hb hby d6_20) rfl k) ?_
  show own_Fin _ _ _ _ _ _ _ (s₁.setTop (mkF m 21 #[.val (.long q0), .second, .val (.long q1), .second, .val (.long z1), .second, .val (.long z2), .second, .unset] [(.int (lcmpW (q0 &&& z1) z2))]))
  have hk4 : ∀ (T' : State) (L' : List Loc), Stand p l e own_rm6_room s m #[(.long q0), (.long q1)] below meth c T' L' 0 0 → Fr n0 L' → T'.heap = h0 → own_Fin p.tables e below s (own_QP (some (.long (own_f6 q0 q1))) h0 n0) own_rm6_room.cells own_rm6_room.slots (T'.setTop (mkF m 45 #[.val (.long q0), .second, .val (.long q1), .second, .val (.long z1), .second, .val (.long z2), .second, .unset] [(.int (if (q0 &&& z1) = z2 then (if ((q0 + (q1 &&& (434041037028460038 : Int64))) &&& z1) = z2 then (1 : Int32) else (0 : Int32)) else (0 : Int32)))])) := by
    intro T6 L6 X6 N6 e6
    generalize hz7 : (if (q0 &&& z1) = z2 then (if ((q0 + (q1 &&& (434041037028460038 : Int64))) &&& z1) = z2 then (1 : Int32) else (0 : Int32)) else (0 : Int32)) = z7
    show own_Fin _ _ _ _ _ _ _ (T6.setTop (mkF m 45 #[.val (.long q0), .second, .val (.long q1), .second, .val (.long z1), .second, .val (.long z2), .second, .unset] [(.int z7)]))
    refine own_go (fun _ k => XS.istore X6.here hx rfl (hb hby d6_45) rfl (l' := #[.val (.long q0), .second, .val (.long q1), .second, .val (.long z1), .second, .val (.long z2), .second, .val (.int z7)]) rfl k) ?_
    show own_Fin _ _ _ _ _ _ _ (T6.setTop (mkF m 47 #[.val (.long q0), .second, .val (.long q1), .second, .val (.long z1), .second, .val (.long z2), .second, .val (.int z7)] []))
    refine own_go (fun _ k => XS.iload X6.here hx rfl (hb hby d6_47) rfl k) ?_
    show own_Fin _ _ _ _ _ _ _ (T6.setTop (mkF m 49 #[.val (.long q0), .second, .val (.long q1), .second, .val (.long z1), .second, .val (.long z2), .second, .val (.int z7)] [(.int z7)]))
    by_cases hc8 : z7 = (0 : Int32)
    · refine own_go (fun _ k => XS.ifYes X6.here hx rfl (pc0 := 49) (pc' := 62) rfl (hb hby d6_49) rfl ((if0 _ _).trans (teq hc8).1) (by decide) (by decide) k) ?_
      show own_Fin _ _ _ _ _ _ _ (T6.setTop (mkF m 62 #[.val (.long q0), .second, .val (.long q1), .second, .val (.long z1), .second, .val (.long z2), .second, .val (.int z7)] []))
      refine own_go (fun _ k => X6.ldc2Long hx hown (mvT hZ (hw _ (List.mem_of_getElem? (i := 32) rfl))) (g := (mkF m 62 #[.val (.long q0), .second, .val (.long q1), .second, .val (.long z1), .second, .val (.long z2), .second, .val (.int z7)] [])) rfl (hb hby d6_62) _ k) ?_
      show own_Fin _ _ _ _ _ _ _ (T6.setTop (mkF m 65 #[.val (.long q0), .second, .val (.long q1), .second, .val (.long z1), .second, .val (.long z2), .second, .val (.int z7)] [(.long (-1 : Int64))]))
      refine own_ret X6 hx hlk Bd.returns rfl (Or.inr (Or.inl ⟨rfl, rfl, _, rfl⟩)) (hb hby d6_65) (Nat.le_of_ble_eq_true rfl) (Nat.le_of_ble_eq_true rfl) ?_
      exact ⟨(own_lf_own_f6_1 (q0 := q0) (q1 := q1) hz1 hz2 hz7 hc8), N6, e6⟩
    · refine own_go (fun _ k => XS.ifNo X6.here hx rfl (hb hby d6_49) rfl ((if0 _ _).trans (feq hc8).1) k) ?_
      show own_Fin _ _ _ _ _ _ _ (T6.setTop (mkF m 52 #[.val (.long q0), .second, .val (.long q1), .second, .val (.long z1), .second, .val (.long z2), .second, .val (.int z7)] []))
      refine own_go (fun _ k => XS.lloadN X6.here hx rfl (hb hby d6_52) rfl k) ?_
      show own_Fin _ _ _ _ _ _ _ (T6.setTop (mkF m 53 #[.val (.long q0), .second, .val (.long q1), .second, .val (.long z1), .second, .val (.long z2), .second, .val (.int z7)] [(.long q0)]))
      refine own_go (fun _ k => XS.lloadN X6.here hx rfl (hb hby d6_53) rfl k) ?_
      show own_Fin _ _ _ _ _ _ _ (T6.setTop (mkF m 54 #[.val (.long q0), .second, .val (.long q1), .second, .val (.long z1), .second, .val (.long z2), .second, .val (.int z7)] [(.long q1), (.long q0)]))
      refine own_go (fun _ k => XS.land X6.here hx rfl (hb hby d6_54) rfl k) ?_
      show own_Fin _ _ _ _ _ _ _ (T6.setTop (mkF m 55 #[.val (.long q0), .second, .val (.long q1), .second, .val (.long z1), .second, .val (.long z2), .second, .val (.int z7)] [(.long (q0 &&& q1))]))
      refine own_go (fun _ k => X6.ldc2Long hx hown (mvT hZ (hw _ (List.mem_of_getElem? (i := 26) rfl))) (g := (mkF m 55 #[.val (.long q0), .second, .val (.long q1), .second, .val (.long z1), .second, .val (.long z2), .second, .val (.int z7)] [(.long (q0 &&& q1))])) rfl (hb hby d6_55) _ k) ?_
      show own_Fin _ _ _ _ _ _ _ (T6.setTop (mkF m 58 #[.val (.long q0), .second, .val (.long q1), .second, .val (.long z1), .second, .val (.long z2), .second, .val (.int z7)] [(.long (1085102592571150095 : Int64)), (.long (q0 &&& q1))]))
      refine own_go (fun _ k => XS.land X6.here hx rfl (hb hby d6_58) rfl k) ?_
      show own_Fin _ _ _ _ _ _ _ (T6.setTop (mkF m 59 #[.val (.long q0), .second, .val (.long q1), .second, .val (.long z1), .second, .val (.long z2), .second, .val (.int z7)] [(.long ((q0 &&& q1) &&& (1085102592571150095 : Int64)))]))
      refine own_go (fun _ k => XS.goto X6.here hx rfl (pc0 := 59) (pc' := 65) rfl (hb hby d6_59) (by decide) (by decide) k) ?_
      show own_Fin _ _ _ _ _ _ _ (T6.setTop (mkF m 65 #[.val (.long q0), .second, .val (.long q1), .second, .val (.long z1), .second, .val (.long z2), .second, .val (.int z7)] [(.long ((q0 &&& q1) &&& (1085102592571150095 : Int64)))]))
      refine own_ret X6 hx hlk Bd.returns rfl (Or.inr (Or.inl ⟨rfl, rfl, _, rfl⟩)) (hb hby d6_65) (Nat.le_of_ble_eq_true rfl) (Nat.le_of_ble_eq_true rfl) ?_
      exact ⟨(own_lf_own_f6_2 (q0 := q0) (q1 := q1) hz1 hz2 hz7 hc8), N6, e6⟩
  by_cases hc3 : (q0 &&& z1) = z2
  · refine own_go (fun _ k => XS.ifNo X0.here hx rfl (hb hby d6_21) rfl ((if0 _ _).trans (teq ((lw_eq _ _).mpr hc3)).2) k) ?_
    show own_Fin _ _ _ _ _ _ _ (s₁.setTop (mkF m 24 #[.val (.long q0), .second, .val (.long q1), .second, .val (.long z1), .second, .val (.long z2), .second, .unset] []))
    refine own_go (fun _ k => XS.lloadN X0.here hx rfl (hb hby d6_24) rfl k) ?_
    show own_Fin _ _ _ _ _ _ _ (s₁.setTop (mkF m 25 #[.val (.long q0), .second, .val (.long q1), .second, .val (.long z1), .second, .val (.long z2), .second, .unset] [(.long q0)]))
    refine own_go (fun _ k => XS.lloadN X0.here hx rfl (hb hby d6_25) rfl k) ?_
    show own_Fin _ _ _ _ _ _ _ (s₁.setTop (mkF m 26 #[.val (.long q0), .second, .val (.long q1), .second, .val (.long z1), .second, .val (.long z2), .second, .unset] [(.long q1), (.long q0)]))
    refine own_go (fun _ k => X0.ldc2Long hx hown (mvT hZ (hw _ (List.mem_of_getElem? (i := 25) rfl))) (g := (mkF m 26 #[.val (.long q0), .second, .val (.long q1), .second, .val (.long z1), .second, .val (.long z2), .second, .unset] [(.long q1), (.long q0)])) rfl (hb hby d6_26) _ k) ?_
    show own_Fin _ _ _ _ _ _ _ (s₁.setTop (mkF m 29 #[.val (.long q0), .second, .val (.long q1), .second, .val (.long z1), .second, .val (.long z2), .second, .unset] [(.long (434041037028460038 : Int64)), (.long q1), (.long q0)]))
    refine own_go (fun _ k => XS.land X0.here hx rfl (hb hby d6_29) rfl k) ?_
    show own_Fin _ _ _ _ _ _ _ (s₁.setTop (mkF m 30 #[.val (.long q0), .second, .val (.long q1), .second, .val (.long z1), .second, .val (.long z2), .second, .unset] [(.long (q1 &&& (434041037028460038 : Int64))), (.long q0)]))
    refine own_go (fun _ k => XS.ladd X0.here hx rfl (hb hby d6_30) rfl k) ?_
    show own_Fin _ _ _ _ _ _ _ (s₁.setTop (mkF m 31 #[.val (.long q0), .second, .val (.long q1), .second, .val (.long z1), .second, .val (.long z2), .second, .unset] [(.long (q0 + (q1 &&& (434041037028460038 : Int64))))]))
    refine own_go (fun _ k => XS.lload X0.here hx rfl (hb hby d6_31) rfl k) ?_
    show own_Fin _ _ _ _ _ _ _ (s₁.setTop (mkF m 33 #[.val (.long q0), .second, .val (.long q1), .second, .val (.long z1), .second, .val (.long z2), .second, .unset] [(.long z1), (.long (q0 + (q1 &&& (434041037028460038 : Int64))))]))
    refine own_go (fun _ k => XS.land X0.here hx rfl (hb hby d6_33) rfl k) ?_
    show own_Fin _ _ _ _ _ _ _ (s₁.setTop (mkF m 34 #[.val (.long q0), .second, .val (.long q1), .second, .val (.long z1), .second, .val (.long z2), .second, .unset] [(.long ((q0 + (q1 &&& (434041037028460038 : Int64))) &&& z1))]))
    refine own_go (fun _ k => XS.lload X0.here hx rfl (hb hby d6_34) rfl k) ?_
    show own_Fin _ _ _ _ _ _ _ (s₁.setTop (mkF m 36 #[.val (.long q0), .second, .val (.long q1), .second, .val (.long z1), .second, .val (.long z2), .second, .unset] [(.long z2), (.long ((q0 + (q1 &&& (434041037028460038 : Int64))) &&& z1))]))
    refine own_go (fun _ k => XS.lcmp X0.here hx rfl (hb hby d6_36) rfl k) ?_
    show own_Fin _ _ _ _ _ _ _ (s₁.setTop (mkF m 37 #[.val (.long q0), .second, .val (.long q1), .second, .val (.long z1), .second, .val (.long z2), .second, .unset] [(.int (lcmpW ((q0 + (q1 &&& (434041037028460038 : Int64))) &&& z1) z2))]))
    by_cases hc5 : ((q0 + (q1 &&& (434041037028460038 : Int64))) &&& z1) = z2
    · refine own_go (fun _ k => XS.ifNo X0.here hx rfl (hb hby d6_37) rfl ((if0 _ _).trans (teq ((lw_eq _ _).mpr hc5)).2) k) ?_
      show own_Fin _ _ _ _ _ _ _ (s₁.setTop (mkF m 40 #[.val (.long q0), .second, .val (.long q1), .second, .val (.long z1), .second, .val (.long z2), .second, .unset] []))
      refine own_go (fun _ k => XS.iconst X0.here hx rfl (hb hby d6_40) k) ?_
      show own_Fin _ _ _ _ _ _ _ (s₁.setTop (mkF m 41 #[.val (.long q0), .second, .val (.long q1), .second, .val (.long z1), .second, .val (.long z2), .second, .unset] [(.int (1 : Int32))]))
      refine own_go (fun _ k => XS.goto X0.here hx rfl (pc0 := 41) (pc' := 45) rfl (hb hby d6_41) (by decide) (by decide) k) ?_
      show own_Fin _ _ _ _ _ _ _ (s₁.setTop (mkF m 45 #[.val (.long q0), .second, .val (.long q1), .second, .val (.long z1), .second, .val (.long z2), .second, .unset] [(.int (1 : Int32))]))
      have kj := hk4 s₁ _ (own_mono X0 (by decide) (by decide)) N0 e0
      simpa only [if_pos hc3, if_pos hc5] using kj
    · refine own_go (fun _ k => XS.ifYes X0.here hx rfl (pc0 := 37) (pc' := 44) rfl (hb hby d6_37) rfl ((if0 _ _).trans (feq (mt (lw_eq _ _).mp hc5)).2) (by decide) (by decide) k) ?_
      show own_Fin _ _ _ _ _ _ _ (s₁.setTop (mkF m 44 #[.val (.long q0), .second, .val (.long q1), .second, .val (.long z1), .second, .val (.long z2), .second, .unset] []))
      refine own_go (fun _ k => XS.iconst X0.here hx rfl (hb hby d6_44) k) ?_
      show own_Fin _ _ _ _ _ _ _ (s₁.setTop (mkF m 45 #[.val (.long q0), .second, .val (.long q1), .second, .val (.long z1), .second, .val (.long z2), .second, .unset] [(.int (0 : Int32))]))
      have kj := hk4 s₁ _ (own_mono X0 (by decide) (by decide)) N0 e0
      simpa only [if_pos hc3, if_neg hc5] using kj
  · refine own_go (fun _ k => XS.ifYes X0.here hx rfl (pc0 := 21) (pc' := 44) rfl (hb hby d6_21) rfl ((if0 _ _).trans (feq (mt (lw_eq _ _).mp hc3)).2) (by decide) (by decide) k) ?_
    show own_Fin _ _ _ _ _ _ _ (s₁.setTop (mkF m 44 #[.val (.long q0), .second, .val (.long q1), .second, .val (.long z1), .second, .val (.long z2), .second, .unset] []))
    refine own_go (fun _ k => XS.iconst X0.here hx rfl (hb hby d6_44) k) ?_
    show own_Fin _ _ _ _ _ _ _ (s₁.setTop (mkF m 45 #[.val (.long q0), .second, .val (.long q1), .second, .val (.long z1), .second, .val (.long z2), .second, .unset] [(.int (0 : Int32))]))
    have kj := hk4 s₁ _ (own_mono X0 (by decide) (by decide)) N0 e0
    simpa only [if_neg hc3] using kj
theorem own_pd214 : parseMethodDescriptor "(I)J" = some ⟨[.int], some .long⟩ := by decide +kernel
theorem own_pd215 : parseMethodDescriptor "(J)J" = some ⟨[.long], some .long⟩ := by decide +kernel
theorem own_pd216 : parseMethodDescriptor "(JII)Z" = some ⟨[.long, .int, .int], some .boolean⟩ := by decide +kernel
theorem own_pd217 : parseMethodDescriptor "(JII)J" = some ⟨[.long, .int, .int], some .long⟩ := by decide +kernel
theorem own_pd218 : parseMethodDescriptor "(JJ)J" = some ⟨[.long, .long], some .long⟩ := by decide +kernel
theorem pn_0 : plainName "com/example/plain_tariff/plaintariff/ByteWordsDigitsPinLaw" = true := by first | (simp [plainName, overriddenIn]; done) | decide +kernel
theorem ef_0 (m : MethodId) (q0 : Int64) (q1 : Int64) (p2 : Int32) (p3 : Int32) : entryFrame m #[(.long q0), (.long q1), (.int p2), (.int p3)] maxLocals = mkF m 0 #[.val (.long q0), .second, .val (.long q1), .second, .val (.int p2), .val (.int p3), .unset, .unset, .unset, .unset, .unset, .unset, .unset, .unset, .unset] [] := by first | (simp [entryFrame, mkF, argsToLocals, Value.category, maxLocals]; done) | rfl
def own_f0 (q0 : Int64) (q1 : Int64) (p2 : Int32) (p3 : Int32) : Int32 := let z3 := ((q0 &&& (own_f1 p2)) ||| ((own_f2 q1) &&& ((own_f1 p2) ^^^ (-1 : Int64)))); let z23 := (if (own_f4 z3 p3 (0 : Int32)) = (0 : Int32) then (0 : Int32) else (if (own_f4 z3 p3 (1 : Int32)) = (0 : Int32) then (0 : Int32) else (if (own_f4 z3 p3 (2 : Int32)) = (0 : Int32) then (0 : Int32) else (if (own_f4 z3 p3 (3 : Int32)) = (0 : Int32) then (0 : Int32) else (if (own_f4 z3 p3 (4 : Int32)) = (0 : Int32) then (0 : Int32) else (if (own_f4 z3 p3 (5 : Int32)) = (0 : Int32) then (0 : Int32) else (if (own_f4 z3 p3 (6 : Int32)) = (0 : Int32) then (0 : Int32) else (if (own_f4 z3 p3 (7 : Int32)) = (0 : Int32) then (0 : Int32) else (1 : Int32))))))))); let z37 := (if z23 = (0 : Int32) then (-1 : Int64) else ((((((((own_f5 z3 p3 (0 : Int32)) ||| (own_f5 z3 p3 (1 : Int32))) ||| (own_f5 z3 p3 (2 : Int32))) ||| (own_f5 z3 p3 (3 : Int32))) ||| (own_f5 z3 p3 (4 : Int32))) ||| (own_f5 z3 p3 (5 : Int32))) ||| (own_f5 z3 p3 (6 : Int32))) ||| (own_f5 z3 p3 (7 : Int32)))); (if (own_f6 z3 (own_f1 p3)) = z37 then ((1 : Int32)) else ((0 : Int32)))
theorem own_lf_own_f0_1 {q0 : Int64} {q1 : Int64} {p2 : Int32} {p3 : Int32} {z3 : Int64} {z23 : Int32} {z37 : Int64} (hz3 : ((q0 &&& (own_f1 p2)) ||| ((own_f2 q1) &&& ((own_f1 p2) ^^^ (-1 : Int64)))) = z3) (hz23 : (if (own_f4 z3 p3 (0 : Int32)) = (0 : Int32) then (0 : Int32) else (if (own_f4 z3 p3 (1 : Int32)) = (0 : Int32) then (0 : Int32) else (if (own_f4 z3 p3 (2 : Int32)) = (0 : Int32) then (0 : Int32) else (if (own_f4 z3 p3 (3 : Int32)) = (0 : Int32) then (0 : Int32) else (if (own_f4 z3 p3 (4 : Int32)) = (0 : Int32) then (0 : Int32) else (if (own_f4 z3 p3 (5 : Int32)) = (0 : Int32) then (0 : Int32) else (if (own_f4 z3 p3 (6 : Int32)) = (0 : Int32) then (0 : Int32) else (if (own_f4 z3 p3 (7 : Int32)) = (0 : Int32) then (0 : Int32) else (1 : Int32))))))))) = z23) (hz37 : (if z23 = (0 : Int32) then (-1 : Int64) else ((((((((own_f5 z3 p3 (0 : Int32)) ||| (own_f5 z3 p3 (1 : Int32))) ||| (own_f5 z3 p3 (2 : Int32))) ||| (own_f5 z3 p3 (3 : Int32))) ||| (own_f5 z3 p3 (4 : Int32))) ||| (own_f5 z3 p3 (5 : Int32))) ||| (own_f5 z3 p3 (6 : Int32))) ||| (own_f5 z3 p3 (7 : Int32)))) = z37) (hc39 : (own_f6 z3 (own_f1 p3)) = z37) : (some (.int (1 : Int32)) : Option Value) = some (.int (own_f0 q0 q1 p2 p3)) := by
  subst hz37
  subst hz23
  subst hz3
  first | (simp only [own_f0, if_pos hc39]; done) | (simp only [own_f0, if_pos hc39]; rfl) | rfl
theorem own_lf_own_f0_2 {q0 : Int64} {q1 : Int64} {p2 : Int32} {p3 : Int32} {z3 : Int64} {z23 : Int32} {z37 : Int64} (hz3 : ((q0 &&& (own_f1 p2)) ||| ((own_f2 q1) &&& ((own_f1 p2) ^^^ (-1 : Int64)))) = z3) (hz23 : (if (own_f4 z3 p3 (0 : Int32)) = (0 : Int32) then (0 : Int32) else (if (own_f4 z3 p3 (1 : Int32)) = (0 : Int32) then (0 : Int32) else (if (own_f4 z3 p3 (2 : Int32)) = (0 : Int32) then (0 : Int32) else (if (own_f4 z3 p3 (3 : Int32)) = (0 : Int32) then (0 : Int32) else (if (own_f4 z3 p3 (4 : Int32)) = (0 : Int32) then (0 : Int32) else (if (own_f4 z3 p3 (5 : Int32)) = (0 : Int32) then (0 : Int32) else (if (own_f4 z3 p3 (6 : Int32)) = (0 : Int32) then (0 : Int32) else (if (own_f4 z3 p3 (7 : Int32)) = (0 : Int32) then (0 : Int32) else (1 : Int32))))))))) = z23) (hz37 : (if z23 = (0 : Int32) then (-1 : Int64) else ((((((((own_f5 z3 p3 (0 : Int32)) ||| (own_f5 z3 p3 (1 : Int32))) ||| (own_f5 z3 p3 (2 : Int32))) ||| (own_f5 z3 p3 (3 : Int32))) ||| (own_f5 z3 p3 (4 : Int32))) ||| (own_f5 z3 p3 (5 : Int32))) ||| (own_f5 z3 p3 (6 : Int32))) ||| (own_f5 z3 p3 (7 : Int32)))) = z37) (hc39 : ¬ ((own_f6 z3 (own_f1 p3)) = z37)) : (some (.int (0 : Int32)) : Option Value) = some (.int (own_f0 q0 q1 p2 p3)) := by
  subst hz37
  subst hz23
  subst hz3
  first | (simp only [own_f0, if_neg hc39]; done) | (simp only [own_f0, if_neg hc39]; rfl) | rfl
set_option maxRecDepth 65536 in
set_option maxHeartbeats 40000000 in
theorem rm0 (l : Launch) (Z : State) (a0 : Array Value) (hw : ∀ d ∈ tables_1, d.before a0 Z = true) (ws : List Jvm.Cond) (q0 : Int64) (q1 : Int64) (p2 : Int32) (p3 : Int32) (h0 : Heap) (n0 : Nat) (Z0 : n0 ≤ h0.size) :
    MetFree l x (head1 (Jvm.Cond.code x code maxLocals ret :: ws) room_1) (fun a U => a = #[(.long q0), (.long q1), (.int p2), (.int p3)] ∧ Z.Warmed39 U.vm ∧ U.heap = h0) (fun _ _ _ _ _ => True) (fun _ U o U' => ∃ v L, o = .returned v ∧ own_QP (some (.int (own_f0 q0 q1 p2 p3))) h0 n0 v U'.heap L ∧ FrameEnd U o U' L 0 0) := by
  refine MetFree.of_bodySF (plainFor_of_name pn_0) hisR ?_
  intro p e s m args below meth c s₁ Bd hml0 hP hK
  obtain ⟨rfl, hZ, hh⟩ := hP
  have hx := Bd.exec
  have hby := Bd.bytes
  have hml : c.maxLocals = 15 := hml0
  have hown : s.vm.findClass "com/example/plain_tariff/plaintariff/ByteWordsDigitsPinLaw" = some m.cls := findClass_of_methodNamed Bd.named
  have hnm := (name_of_methodNamed Bd.named Bd.method).1
  have hlk : meth.locks = false := BodyLoose.notSynchronized Bd
  have X0 : Stand p l e room_1 s m #[(.long q0), (.long q1), (.int p2), (.int p3)] below meth c s₁ [] 0 0 := Stand.of_body Bd
  have e0 : s₁.heap = h0 := by rw [← hh, Bd.state]; rfl
  have N0 := Fr.nil n0
  show own_Fin p.tables e below s (own_QP (some (.int (own_f0 q0 q1 p2 p3))) h0 n0) 0 0 (s₁.setTop (entryFrame m #[(.long q0), (.long q1), (.int p2), (.int p3)] maxLocals))
  rw [ef_0]
  show own_Fin _ _ _ _ _ _ _ (s₁.setTop (mkF m 0 #[.val (.long q0), .second, .val (.long q1), .second, .val (.int p2), .val (.int p3), .unset, .unset, .unset, .unset, .unset, .unset, .unset, .unset, .unset] []))
  refine own_go (fun _ k => XS.iload X0.here hx rfl (hb hby at_0) rfl k) ?_
  show own_Fin _ _ _ _ _ _ _ (s₁.setTop (mkF m 2 #[.val (.long q0), .second, .val (.long q1), .second, .val (.int p2), .val (.int p3), .unset, .unset, .unset, .unset, .unset, .unset, .unset, .unset, .unset] [(.int p2)]))
  obtain ⟨_, _, ⟨T1, L1, k1, n1⟩, -, X1, ⟨Lc1, hQ1, l1, y1, z1⟩, st1⟩ := Jvm.LawKit.callS X0 hx (y := (⟨"com/example/plain_tariff/plaintariff/ByteWordsDigitsPinLaw", "spread", "(I)J"⟩ : MethodName)) hown (mvT hZ (hw _ (List.mem_of_getElem? (i := 0) rfl))) (mvT hZ (hw _ (List.mem_of_getElem? (i := 1) rfl))) (mvT hZ (hw _ (List.mem_of_getElem? (i := 2) rfl))) (mvT hZ (hw _ (List.mem_of_getElem? (i := 3) rfl))) (by decide) (backOf (W := 0) (rm1 l Z a0 hw [] p2 h0 n0 Z0) hZ (hw _ (List.mem_of_getElem? (i := 3) rfl)) (hw _ (List.mem_of_getElem? (i := 2) rfl)) (by decide) (by decide)) (g := (mkF m 2 #[.val (.long q0), .second, .val (.long q1), .second, .val (.int p2), .val (.int p3), .unset, .unset, .unset, .unset, .unset, .unset, .unset, .unset, .unset] [(.int p2)])) rfl (by rw [hml]; rfl) (argsL := [(.int p2)]) (rest := []) (lenOf own_pd214 rfl) rfl (by show 2 * 0 + _ ≤ _; exact Nat.le_of_eq rfl) (hb hby at_2) (fun _ _ => ⟨rfl, e0, (by decide : 0 + 0 ≤ _), (by decide : 0 + 0 ≤ _)⟩)
  dsimp only [Pt.U, Pt.locs, Pt.cells, Pt.slots] at X1 l1 y1 z1 st1 hQ1
  replace y1 : 0 = k1 := y1.symm
  replace z1 : 0 = n1 := z1.symm
  subst y1 z1
  obtain ⟨rfl, N1q, e1⟩ := hQ1
  have N1 : Fr n0 L1 := by rw [l1]; exact Fr.app N0 N1q
  refine own_go (fun tg k => st1 tg k) ?_
  show own_Fin _ _ _ _ _ _ _ (T1.setTop (mkF m 5 #[.val (.long q0), .second, .val (.long q1), .second, .val (.int p2), .val (.int p3), .unset, .unset, .unset, .unset, .unset, .unset, .unset, .unset, .unset] [(.long (own_f1 p2))]))
  refine own_go (fun _ k => XS.lstore X1.here hx rfl (hb hby at_5) rfl (l' := #[.val (.long q0), .second, .val (.long q1), .second, .val (.int p2), .val (.int p3), .val (.long (own_f1 p2)), .second, .unset, .unset, .unset, .unset, .unset, .unset, .unset]) rfl k) ?_
  show own_Fin _ _ _ _ _ _ _ (T1.setTop (mkF m 7 #[.val (.long q0), .second, .val (.long q1), .second, .val (.int p2), .val (.int p3), .val (.long (own_f1 p2)), .second, .unset, .unset, .unset, .unset, .unset, .unset, .unset] []))
  refine own_go (fun _ k => XS.lloadN X1.here hx rfl (hb hby at_7) rfl k) ?_
  show own_Fin _ _ _ _ _ _ _ (T1.setTop (mkF m 8 #[.val (.long q0), .second, .val (.long q1), .second, .val (.int p2), .val (.int p3), .val (.long (own_f1 p2)), .second, .unset, .unset, .unset, .unset, .unset, .unset, .unset] [(.long q0)]))
  refine own_go (fun _ k => XS.lload X1.here hx rfl (hb hby at_8) rfl k) ?_
  show own_Fin _ _ _ _ _ _ _ (T1.setTop (mkF m 10 #[.val (.long q0), .second, .val (.long q1), .second, .val (.int p2), .val (.int p3), .val (.long (own_f1 p2)), .second, .unset, .unset, .unset, .unset, .unset, .unset, .unset] [(.long (own_f1 p2)), (.long q0)]))
  refine own_go (fun _ k => XS.land X1.here hx rfl (hb hby at_10) rfl k) ?_
  show own_Fin _ _ _ _ _ _ _ (T1.setTop (mkF m 11 #[.val (.long q0), .second, .val (.long q1), .second, .val (.int p2), .val (.int p3), .val (.long (own_f1 p2)), .second, .unset, .unset, .unset, .unset, .unset, .unset, .unset] [(.long (q0 &&& (own_f1 p2)))]))
  refine own_go (fun _ k => XS.lloadN X1.here hx rfl (hb hby at_11) rfl k) ?_
  show own_Fin _ _ _ _ _ _ _ (T1.setTop (mkF m 12 #[.val (.long q0), .second, .val (.long q1), .second, .val (.int p2), .val (.int p3), .val (.long (own_f1 p2)), .second, .unset, .unset, .unset, .unset, .unset, .unset, .unset] [(.long q1), (.long (q0 &&& (own_f1 p2)))]))
  obtain ⟨_, _, ⟨T2, L2, k2, n2⟩, -, X2, ⟨Lc2, hQ2, l2, y2, z2⟩, st2⟩ := Jvm.LawKit.callS X1 hx (y := (⟨"com/example/plain_tariff/plaintariff/ByteWordsDigitsPinLaw", "digitWord", "(J)J"⟩ : MethodName)) hown (mvT hZ (hw _ (List.mem_of_getElem? (i := 4) rfl))) (mvT hZ (hw _ (List.mem_of_getElem? (i := 5) rfl))) (mvT hZ (hw _ (List.mem_of_getElem? (i := 2) rfl))) (mvT hZ (hw _ (List.mem_of_getElem? (i := 6) rfl))) (by decide) (backOf (W := 2) (rm2 l Z a0 hw [] q1 h0 n0 Z0) hZ (hw _ (List.mem_of_getElem? (i := 6) rfl)) (hw _ (List.mem_of_getElem? (i := 2) rfl)) (by decide) (by decide)) (g := (mkF m 12 #[.val (.long q0), .second, .val (.long q1), .second, .val (.int p2), .val (.int p3), .val (.long (own_f1 p2)), .second, .unset, .unset, .unset, .unset, .unset, .unset, .unset] [(.long q1), (.long (q0 &&& (own_f1 p2)))])) rfl (by rw [hml]; rfl) (argsL := [(.long q1)]) (rest := [(.long (q0 &&& (own_f1 p2)))]) (lenOf own_pd215 rfl) rfl (by show 2 * 0 + _ ≤ _; exact Nat.le_of_eq rfl) (hb hby at_12) (fun _ _ => ⟨rfl, e1, (by decide : 0 + 0 ≤ _), (by decide : 0 + 0 ≤ _)⟩)
  dsimp only [Pt.U, Pt.locs, Pt.cells, Pt.slots] at X2 l2 y2 z2 st2 hQ2
  replace y2 : 0 = k2 := y2.symm
  replace z2 : 0 = n2 := z2.symm
  subst y2 z2
  obtain ⟨rfl, N2q, e2⟩ := hQ2
  have N2 : Fr n0 L2 := by rw [l2]; exact Fr.app N1 N2q
  refine own_go (fun tg k => st2 tg k) ?_
  show own_Fin _ _ _ _ _ _ _ (T2.setTop (mkF m 15 #[.val (.long q0), .second, .val (.long q1), .second, .val (.int p2), .val (.int p3), .val (.long (own_f1 p2)), .second, .unset, .unset, .unset, .unset, .unset, .unset, .unset] [(.long (own_f2 q1)), (.long (q0 &&& (own_f1 p2)))]))
  refine own_go (fun _ k => XS.lload X2.here hx rfl (hb hby at_15) rfl k) ?_
  show own_Fin _ _ _ _ _ _ _ (T2.setTop (mkF m 17 #[.val (.long q0), .second, .val (.long q1), .second, .val (.int p2), .val (.int p3), .val (.long (own_f1 p2)), .second, .unset, .unset, .unset, .unset, .unset, .unset, .unset] [(.long (own_f1 p2)), (.long (own_f2 q1)), (.long (q0 &&& (own_f1 p2)))]))
  refine own_go (fun _ k => X2.ldc2Long hx hown (mvT hZ (hw _ (List.mem_of_getElem? (i := 11) rfl))) (g := (mkF m 17 #[.val (.long q0), .second, .val (.long q1), .second, .val (.int p2), .val (.int p3), .val (.long (own_f1 p2)), .second, .unset, .unset, .unset, .unset, .unset, .unset, .unset] [(.long (own_f1 p2)), (.long (own_f2 q1)), (.long (q0 &&& (own_f1 p2)))])) rfl (hb hby at_17) _ k) ?_
  show own_Fin _ _ _ _ _ _ _ (T2.setTop (mkF m 20 #[.val (.long q0), .second, .val (.long q1), .second, .val (.int p2), .val (.int p3), .val (.long (own_f1 p2)), .second, .unset, .unset, .unset, .unset, .unset, .unset, .unset] [(.long (-1 : Int64)), (.long (own_f1 p2)), (.long (own_f2 q1)), (.long (q0 &&& (own_f1 p2)))]))
  refine own_go (fun _ k => XS.lxor X2.here hx rfl (hb hby at_20) rfl k) ?_
  show own_Fin _ _ _ _ _ _ _ (T2.setTop (mkF m 21 #[.val (.long q0), .second, .val (.long q1), .second, .val (.int p2), .val (.int p3), .val (.long (own_f1 p2)), .second, .unset, .unset, .unset, .unset, .unset, .unset, .unset] [(.long ((own_f1 p2) ^^^ (-1 : Int64))), (.long (own_f2 q1)), (.long (q0 &&& (own_f1 p2)))]))
  refine own_go (fun _ k => XS.land X2.here hx rfl (hb hby at_21) rfl k) ?_
  show own_Fin _ _ _ _ _ _ _ (T2.setTop (mkF m 22 #[.val (.long q0), .second, .val (.long q1), .second, .val (.int p2), .val (.int p3), .val (.long (own_f1 p2)), .second, .unset, .unset, .unset, .unset, .unset, .unset, .unset] [(.long ((own_f2 q1) &&& ((own_f1 p2) ^^^ (-1 : Int64)))), (.long (q0 &&& (own_f1 p2)))]))
  refine own_go (fun _ k => XS.lor X2.here hx rfl (hb hby at_22) rfl k) ?_
  show own_Fin _ _ _ _ _ _ _ (T2.setTop (mkF m 23 #[.val (.long q0), .second, .val (.long q1), .second, .val (.int p2), .val (.int p3), .val (.long (own_f1 p2)), .second, .unset, .unset, .unset, .unset, .unset, .unset, .unset] [(.long ((q0 &&& (own_f1 p2)) ||| ((own_f2 q1) &&& ((own_f1 p2) ^^^ (-1 : Int64)))))]))
  refine own_go (fun _ k => XS.lstore X2.here hx rfl (hb hby at_23) rfl (l' := #[.val (.long q0), .second, .val (.long q1), .second, .val (.int p2), .val (.int p3), .val (.long (own_f1 p2)), .second, .val (.long ((q0 &&& (own_f1 p2)) ||| ((own_f2 q1) &&& ((own_f1 p2) ^^^ (-1 : Int64))))), .second, .unset, .unset, .unset, .unset, .unset]) rfl k) ?_
  show own_Fin _ _ _ _ _ _ _ (T2.setTop (mkF m 25 #[.val (.long q0), .second, .val (.long q1), .second, .val (.int p2), .val (.int p3), .val (.long (own_f1 p2)), .second, .val (.long ((q0 &&& (own_f1 p2)) ||| ((own_f2 q1) &&& ((own_f1 p2) ^^^ (-1 : Int64))))), .second, .unset, .unset, .unset, .unset, .unset] []))
  generalize hz3 : ((q0 &&& (own_f1 p2)) ||| ((own_f2 q1) &&& ((own_f1 p2) ^^^ (-1 : Int64)))) = z3
  show own_Fin _ _ _ _ _ _ _ (T2.setTop (mkF m 25 #[.val (.long q0), .second, .val (.long q1), .second, .val (.int p2), .val (.int p3), .val (.long (own_f1 p2)), .second, .val (.long z3), .second, .unset, .unset, .unset, .unset, .unset] []))
  refine own_go (fun _ k => XS.iload X2.here hx rfl (hb hby at_25) rfl k) ?_
  show own_Fin _ _ _ _ _ _ _ (T2.setTop (mkF m 27 #[.val (.long q0), .second, .val (.long q1), .second, .val (.int p2), .val (.int p3), .val (.long (own_f1 p2)), .second, .val (.long z3), .second, .unset, .unset, .unset, .unset, .unset] [(.int p3)]))
  obtain ⟨_, _, ⟨T4, L4, k4, n4⟩, -, X4, ⟨Lc4, hQ4, l4, y4, z4⟩, st4⟩ := Jvm.LawKit.callS X2 hx (y := (⟨"com/example/plain_tariff/plaintariff/ByteWordsDigitsPinLaw", "spread", "(I)J"⟩ : MethodName)) hown (mvT hZ (hw _ (List.mem_of_getElem? (i := 0) rfl))) (mvT hZ (hw _ (List.mem_of_getElem? (i := 1) rfl))) (mvT hZ (hw _ (List.mem_of_getElem? (i := 2) rfl))) (mvT hZ (hw _ (List.mem_of_getElem? (i := 3) rfl))) (by decide) (backOf (W := 0) (rm1 l Z a0 hw [] p3 h0 n0 Z0) hZ (hw _ (List.mem_of_getElem? (i := 3) rfl)) (hw _ (List.mem_of_getElem? (i := 2) rfl)) (by decide) (by decide)) (g := (mkF m 27 #[.val (.long q0), .second, .val (.long q1), .second, .val (.int p2), .val (.int p3), .val (.long (own_f1 p2)), .second, .val (.long z3), .second, .unset, .unset, .unset, .unset, .unset] [(.int p3)])) rfl (by rw [hml]; rfl) (argsL := [(.int p3)]) (rest := []) (lenOf own_pd214 rfl) rfl (by show 2 * 0 + _ ≤ _; exact Nat.le_of_eq rfl) (hb hby at_27) (fun _ _ => ⟨rfl, e2, (by decide : 0 + 0 ≤ _), (by decide : 0 + 0 ≤ _)⟩)
  dsimp only [Pt.U, Pt.locs, Pt.cells, Pt.slots] at X4 l4 y4 z4 st4 hQ4
  replace y4 : 0 = k4 := y4.symm
  replace z4 : 0 = n4 := z4.symm
  subst y4 z4
  obtain ⟨rfl, N4q, e4⟩ := hQ4
  have N4 : Fr n0 L4 := by rw [l4]; exact Fr.app N2 N4q
  refine own_go (fun tg k => st4 tg k) ?_
  show own_Fin _ _ _ _ _ _ _ (T4.setTop (mkF m 30 #[.val (.long q0), .second, .val (.long q1), .second, .val (.int p2), .val (.int p3), .val (.long (own_f1 p2)), .second, .val (.long z3), .second, .unset, .unset, .unset, .unset, .unset] [(.long (own_f1 p3))]))
  refine own_go (fun _ k => XS.lstore X4.here hx rfl (hb hby at_30) rfl (l' := #[.val (.long q0), .second, .val (.long q1), .second, .val (.int p2), .val (.int p3), .val (.long (own_f1 p2)), .second, .val (.long z3), .second, .val (.long (own_f1 p3)), .second, .unset, .unset, .unset]) rfl k) ?_
  show own_Fin _ _ _ _ _ _ _ (T4.setTop (mkF m 32 #[.val (.long q0), .second, .val (.long q1), .second, .val (.int p2), .val (.int p3), .val (.long (own_f1 p2)), .second, .val (.long z3), .second, .val (.long (own_f1 p3)), .second, .unset, .unset, .unset] []))
  refine own_go (fun _ k => XS.lload X4.here hx rfl (hb hby at_32) rfl k) ?_
  show own_Fin _ _ _ _ _ _ _ (T4.setTop (mkF m 34 #[.val (.long q0), .second, .val (.long q1), .second, .val (.int p2), .val (.int p3), .val (.long (own_f1 p2)), .second, .val (.long z3), .second, .val (.long (own_f1 p3)), .second, .unset, .unset, .unset] [(.long z3)]))
  refine own_go (fun _ k => XS.iload X4.here hx rfl (hb hby at_34) rfl k) ?_
  show own_Fin _ _ _ _ _ _ _ (T4.setTop (mkF m 36 #[.val (.long q0), .second, .val (.long q1), .second, .val (.int p2), .val (.int p3), .val (.long (own_f1 p2)), .second, .val (.long z3), .second, .val (.long (own_f1 p3)), .second, .unset, .unset, .unset] [(.int p3), (.long z3)]))
  refine own_go (fun _ k => XS.iconst X4.here hx rfl (hb hby at_36) k) ?_
  show own_Fin _ _ _ _ _ _ _ (T4.setTop (mkF m 37 #[.val (.long q0), .second, .val (.long q1), .second, .val (.int p2), .val (.int p3), .val (.long (own_f1 p2)), .second, .val (.long z3), .second, .val (.long (own_f1 p3)), .second, .unset, .unset, .unset] [(.int (0 : Int32)), (.int p3), (.long z3)]))
  obtain ⟨_, _, ⟨T5, L5, k5, n5⟩, -, X5, ⟨Lc5, hQ5, l5, y5, z5⟩, st5⟩ := Jvm.LawKit.callS X4 hx (y := (⟨"com/example/plain_tariff/plaintariff/ByteWordsDigitsPinLaw", "ok", "(JII)Z"⟩ : MethodName)) hown (mvT hZ (hw _ (List.mem_of_getElem? (i := 13) rfl))) (mvT hZ (hw _ (List.mem_of_getElem? (i := 14) rfl))) (mvT hZ (hw _ (List.mem_of_getElem? (i := 2) rfl))) (mvT hZ (hw _ (List.mem_of_getElem? (i := 15) rfl))) (by decide) (backOf (W := 0) (rm4 l Z a0 hw [] z3 p3 (0 : Int32) h0 n0 Z0) hZ (hw _ (List.mem_of_getElem? (i := 15) rfl)) (hw _ (List.mem_of_getElem? (i := 2) rfl)) (by decide) (by decide)) (g := (mkF m 37 #[.val (.long q0), .second, .val (.long q1), .second, .val (.int p2), .val (.int p3), .val (.long (own_f1 p2)), .second, .val (.long z3), .second, .val (.long (own_f1 p3)), .second, .unset, .unset, .unset] [(.int (0 : Int32)), (.int p3), (.long z3)])) rfl (by rw [hml]; rfl) (argsL := [(.long z3), (.int p3), (.int (0 : Int32))]) (rest := []) (lenOf own_pd216 rfl) rfl (by show 2 * 0 + _ ≤ _; exact Nat.le_of_eq rfl) (hb hby at_37) (fun _ _ => ⟨rfl, e4, (by decide : 0 + 0 ≤ _), (by decide : 0 + 0 ≤ _)⟩)
  dsimp only [Pt.U, Pt.locs, Pt.cells, Pt.slots] at X5 l5 y5 z5 st5 hQ5
  replace y5 : 0 = k5 := y5.symm
  replace z5 : 0 = n5 := z5.symm
  subst y5 z5
  obtain ⟨rfl, N5q, e5⟩ := hQ5
  have N5 : Fr n0 L5 := by rw [l5]; exact Fr.app N4 N5q
  refine own_go (fun tg k => st5 tg k) ?_
  show own_Fin _ _ _ _ _ _ _ (T5.setTop (mkF m 40 #[.val (.long q0), .second, .val (.long q1), .second, .val (.int p2), .val (.int p3), .val (.long (own_f1 p2)), .second, .val (.long z3), .second, .val (.long (own_f1 p3)), .second, .unset, .unset, .unset] [(.int (own_f4 z3 p3 (0 : Int32)))]))
  have hk7 : ∀ (T' : State) (L' : List Loc), Stand p l e room_1 s m #[(.long q0), (.long q1), (.int p2), (.int p3)] below meth c T' L' 0 0 → Fr n0 L' → T'.heap = h0 → own_Fin p.tables e below s (own_QP (some (.int (own_f0 q0 q1 p2 p3))) h0 n0) 0 0 (T'.setTop (mkF m 127 #[.val (.long q0), .second, .val (.long q1), .second, .val (.int p2), .val (.int p3), .val (.long (own_f1 p2)), .second, .val (.long z3), .second, .val (.long (own_f1 p3)), .second, .unset, .unset, .unset] [(.int (if (own_f4 z3 p3 (0 : Int32)) = (0 : Int32) then (0 : Int32) else (if (own_f4 z3 p3 (1 : Int32)) = (0 : Int32) then (0 : Int32) else (if (own_f4 z3 p3 (2 : Int32)) = (0 : Int32) then (0 : Int32) else (if (own_f4 z3 p3 (3 : Int32)) = (0 : Int32) then (0 : Int32) else (if (own_f4 z3 p3 (4 : Int32)) = (0 : Int32) then (0 : Int32) else (if (own_f4 z3 p3 (5 : Int32)) = (0 : Int32) then (0 : Int32) else (if (own_f4 z3 p3 (6 : Int32)) = (0 : Int32) then (0 : Int32) else (if (own_f4 z3 p3 (7 : Int32)) = (0 : Int32) then (0 : Int32) else (1 : Int32))))))))))])) := by
    intro T22 L22 X22 N22 e22
    generalize hz23 : (if (own_f4 z3 p3 (0 : Int32)) = (0 : Int32) then (0 : Int32) else (if (own_f4 z3 p3 (1 : Int32)) = (0 : Int32) then (0 : Int32) else (if (own_f4 z3 p3 (2 : Int32)) = (0 : Int32) then (0 : Int32) else (if (own_f4 z3 p3 (3 : Int32)) = (0 : Int32) then (0 : Int32) else (if (own_f4 z3 p3 (4 : Int32)) = (0 : Int32) then (0 : Int32) else (if (own_f4 z3 p3 (5 : Int32)) = (0 : Int32) then (0 : Int32) else (if (own_f4 z3 p3 (6 : Int32)) = (0 : Int32) then (0 : Int32) else (if (own_f4 z3 p3 (7 : Int32)) = (0 : Int32) then (0 : Int32) else (1 : Int32))))))))) = z23
    show own_Fin _ _ _ _ _ _ _ (T22.setTop (mkF m 127 #[.val (.long q0), .second, .val (.long q1), .second, .val (.int p2), .val (.int p3), .val (.long (own_f1 p2)), .second, .val (.long z3), .second, .val (.long (own_f1 p3)), .second, .unset, .unset, .unset] [(.int z23)]))
    refine own_go (fun _ k => XS.istore X22.here hx rfl (hb hby at_127) rfl (l' := #[.val (.long q0), .second, .val (.long q1), .second, .val (.int p2), .val (.int p3), .val (.long (own_f1 p2)), .second, .val (.long z3), .second, .val (.long (own_f1 p3)), .second, .val (.int z23), .unset, .unset]) rfl k) ?_
    show own_Fin _ _ _ _ _ _ _ (T22.setTop (mkF m 129 #[.val (.long q0), .second, .val (.long q1), .second, .val (.int p2), .val (.int p3), .val (.long (own_f1 p2)), .second, .val (.long z3), .second, .val (.long (own_f1 p3)), .second, .val (.int z23), .unset, .unset] []))
    refine own_go (fun _ k => XS.iload X22.here hx rfl (hb hby at_129) rfl k) ?_
    show own_Fin _ _ _ _ _ _ _ (T22.setTop (mkF m 131 #[.val (.long q0), .second, .val (.long q1), .second, .val (.int p2), .val (.int p3), .val (.long (own_f1 p2)), .second, .val (.long z3), .second, .val (.long (own_f1 p3)), .second, .val (.int z23), .unset, .unset] [(.int z23)]))
    have hk25 : ∀ (T' : State) (L' : List Loc), Stand p l e room_1 s m #[(.long q0), (.long q1), (.int p2), (.int p3)] below meth c T' L' 0 0 → Fr n0 L' → T'.heap = h0 → own_Fin p.tables e below s (own_QP (some (.int (own_f0 q0 q1 p2 p3))) h0 n0) 0 0 (T'.setTop (mkF m 217 #[.val (.long q0), .second, .val (.long q1), .second, .val (.int p2), .val (.int p3), .val (.long (own_f1 p2)), .second, .val (.long z3), .second, .val (.long (own_f1 p3)), .second, .val (.int z23), .val (.long (if z23 = (0 : Int32) then (-1 : Int64) else ((((((((own_f5 z3 p3 (0 : Int32)) ||| (own_f5 z3 p3 (1 : Int32))) ||| (own_f5 z3 p3 (2 : Int32))) ||| (own_f5 z3 p3 (3 : Int32))) ||| (own_f5 z3 p3 (4 : Int32))) ||| (own_f5 z3 p3 (5 : Int32))) ||| (own_f5 z3 p3 (6 : Int32))) ||| (own_f5 z3 p3 (7 : Int32))))), .second] [])) := by
      intro T36 L36 X36 N36 e36
      generalize hz37 : (if z23 = (0 : Int32) then (-1 : Int64) else ((((((((own_f5 z3 p3 (0 : Int32)) ||| (own_f5 z3 p3 (1 : Int32))) ||| (own_f5 z3 p3 (2 : Int32))) ||| (own_f5 z3 p3 (3 : Int32))) ||| (own_f5 z3 p3 (4 : Int32))) ||| (own_f5 z3 p3 (5 : Int32))) ||| (own_f5 z3 p3 (6 : Int32))) ||| (own_f5 z3 p3 (7 : Int32)))) = z37
      show own_Fin _ _ _ _ _ _ _ (T36.setTop (mkF m 217 #[.val (.long q0), .second, .val (.long q1), .second, .val (.int p2), .val (.int p3), .val (.long (own_f1 p2)), .second, .val (.long z3), .second, .val (.long (own_f1 p3)), .second, .val (.int z23), .val (.long z37), .second] []))
      refine own_go (fun _ k => XS.lload X36.here hx rfl (hb hby at_217) rfl k) ?_
      show own_Fin _ _ _ _ _ _ _ (T36.setTop (mkF m 219 #[.val (.long q0), .second, .val (.long q1), .second, .val (.int p2), .val (.int p3), .val (.long (own_f1 p2)), .second, .val (.long z3), .second, .val (.long (own_f1 p3)), .second, .val (.int z23), .val (.long z37), .second] [(.long z3)]))
      refine own_go (fun _ k => XS.lload X36.here hx rfl (hb hby at_219) rfl k) ?_
      show own_Fin _ _ _ _ _ _ _ (T36.setTop (mkF m 221 #[.val (.long q0), .second, .val (.long q1), .second, .val (.int p2), .val (.int p3), .val (.long (own_f1 p2)), .second, .val (.long z3), .second, .val (.long (own_f1 p3)), .second, .val (.int z23), .val (.long z37), .second] [(.long (own_f1 p3)), (.long z3)]))
      obtain ⟨_, _, ⟨T38, L38, k38, n38⟩, -, X38, ⟨Lc38, hQ38, l38, y38, z38⟩, st38⟩ := Jvm.LawKit.callS X36 hx (y := (⟨"com/example/plain_tariff/plaintariff/ByteWords", "digits", "(JJ)J"⟩ : MethodName)) hown (mvT hZ (hw _ (List.mem_of_getElem? (i := 19) rfl))) (mvT hZ (hw _ (List.mem_of_getElem? (i := 20) rfl))) (mvT hZ (hw _ (List.mem_of_getElem? (i := 21) rfl))) (mvT hZ (hw _ (List.mem_of_getElem? (i := 22) rfl))) (by decide) (backOf (W := 0) (rm6 l Z a0 hw [] z3 (own_f1 p3) h0 n0 Z0) hZ (hw _ (List.mem_of_getElem? (i := 22) rfl)) (hw _ (List.mem_of_getElem? (i := 21) rfl)) (by decide) (by decide)) (g := (mkF m 221 #[.val (.long q0), .second, .val (.long q1), .second, .val (.int p2), .val (.int p3), .val (.long (own_f1 p2)), .second, .val (.long z3), .second, .val (.long (own_f1 p3)), .second, .val (.int z23), .val (.long z37), .second] [(.long (own_f1 p3)), (.long z3)])) rfl (by rw [hml]; rfl) (argsL := [(.long z3), (.long (own_f1 p3))]) (rest := []) (lenOf own_pd218 rfl) rfl (by show 2 * 0 + _ ≤ _; exact Nat.le_of_eq rfl) (hb hby at_221) (fun _ _ => ⟨rfl, e36, (by decide : 0 + 0 ≤ _), (by decide : 0 + 0 ≤ _)⟩)
      dsimp only [Pt.U, Pt.locs, Pt.cells, Pt.slots] at X38 l38 y38 z38 st38 hQ38
      replace y38 : 0 = k38 := y38.symm
      replace z38 : 0 = n38 := z38.symm
      subst y38 z38
      obtain ⟨rfl, N38q, e38⟩ := hQ38
      have N38 : Fr n0 L38 := by rw [l38]; exact Fr.app N36 N38q
      refine own_go (fun tg k => st38 tg k) ?_
      show own_Fin _ _ _ _ _ _ _ (T38.setTop (mkF m 224 #[.val (.long q0), .second, .val (.long q1), .second, .val (.int p2), .val (.int p3), .val (.long (own_f1 p2)), .second, .val (.long z3), .second, .val (.long (own_f1 p3)), .second, .val (.int z23), .val (.long z37), .second] [(.long (own_f6 z3 (own_f1 p3)))]))
      refine own_go (fun _ k => XS.lload X38.here hx rfl (hb hby at_224) rfl k) ?_
      show own_Fin _ _ _ _ _ _ _ (T38.setTop (mkF m 226 #[.val (.long q0), .second, .val (.long q1), .second, .val (.int p2), .val (.int p3), .val (.long (own_f1 p2)), .second, .val (.long z3), .second, .val (.long (own_f1 p3)), .second, .val (.int z23), .val (.long z37), .second] [(.long z37), (.long (own_f6 z3 (own_f1 p3)))]))
      refine own_go (fun _ k => XS.lcmp X38.here hx rfl (hb hby at_226) rfl k) ?_
      show own_Fin _ _ _ _ _ _ _ (T38.setTop (mkF m 227 #[.val (.long q0), .second, .val (.long q1), .second, .val (.int p2), .val (.int p3), .val (.long (own_f1 p2)), .second, .val (.long z3), .second, .val (.long (own_f1 p3)), .second, .val (.int z23), .val (.long z37), .second] [(.int (lcmpW (own_f6 z3 (own_f1 p3)) z37))]))
      by_cases hc39 : (own_f6 z3 (own_f1 p3)) = z37
      · refine own_go (fun _ k => XS.ifNo X38.here hx rfl (hb hby at_227) rfl ((if0 _ _).trans (teq ((lw_eq _ _).mpr hc39)).2) k) ?_
        show own_Fin _ _ _ _ _ _ _ (T38.setTop (mkF m 230 #[.val (.long q0), .second, .val (.long q1), .second, .val (.int p2), .val (.int p3), .val (.long (own_f1 p2)), .second, .val (.long z3), .second, .val (.long (own_f1 p3)), .second, .val (.int z23), .val (.long z37), .second] []))
        refine own_go (fun _ k => XS.iconst X38.here hx rfl (hb hby at_230) k) ?_
        show own_Fin _ _ _ _ _ _ _ (T38.setTop (mkF m 231 #[.val (.long q0), .second, .val (.long q1), .second, .val (.int p2), .val (.int p3), .val (.long (own_f1 p2)), .second, .val (.long z3), .second, .val (.long (own_f1 p3)), .second, .val (.int z23), .val (.long z37), .second] [(.int (1 : Int32))]))
        refine own_go (fun _ k => XS.goto X38.here hx rfl (pc0 := 231) (pc' := 235) rfl (hb hby at_231) (by decide) (by decide) k) ?_
        show own_Fin _ _ _ _ _ _ _ (T38.setTop (mkF m 235 #[.val (.long q0), .second, .val (.long q1), .second, .val (.int p2), .val (.int p3), .val (.long (own_f1 p2)), .second, .val (.long z3), .second, .val (.long (own_f1 p3)), .second, .val (.int z23), .val (.long z37), .second] [(.int (1 : Int32))]))
        refine own_ret X38 hx hlk Bd.returns rfl (Or.inl ⟨rfl, by simp, _, rfl⟩) (hb hby at_235) (Nat.le_of_ble_eq_true rfl) (Nat.le_of_ble_eq_true rfl) ?_
        exact ⟨(own_lf_own_f0_1 (q0 := q0) (q1 := q1) (p2 := p2) (p3 := p3) hz3 hz23 hz37 hc39), N38, e38⟩
      · refine own_go (fun _ k => XS.ifYes X38.here hx rfl (pc0 := 227) (pc' := 234) rfl (hb hby at_227) rfl ((if0 _ _).trans (feq (mt (lw_eq _ _).mp hc39)).2) (by decide) (by decide) k) ?_
        show own_Fin _ _ _ _ _ _ _ (T38.setTop (mkF m 234 #[.val (.long q0), .second, .val (.long q1), .second, .val (.int p2), .val (.int p3), .val (.long (own_f1 p2)), .second, .val (.long z3), .second, .val (.long (own_f1 p3)), .second, .val (.int z23), .val (.long z37), .second] []))
        refine own_go (fun _ k => XS.iconst X38.here hx rfl (hb hby at_234) k) ?_
        show own_Fin _ _ _ _ _ _ _ (T38.setTop (mkF m 235 #[.val (.long q0), .second, .val (.long q1), .second, .val (.int p2), .val (.int p3), .val (.long (own_f1 p2)), .second, .val (.long z3), .second, .val (.long (own_f1 p3)), .second, .val (.int z23), .val (.long z37), .second] [(.int (0 : Int32))]))
        refine own_ret X38 hx hlk Bd.returns rfl (Or.inl ⟨rfl, by simp, _, rfl⟩) (hb hby at_235) (Nat.le_of_ble_eq_true rfl) (Nat.le_of_ble_eq_true rfl) ?_
        exact ⟨(own_lf_own_f0_2 (q0 := q0) (q1 := q1) (p2 := p2) (p3 := p3) hz3 hz23 hz37 hc39), N38, e38⟩
    by_cases hc24 : z23 = (0 : Int32)
    · refine own_go (fun _ k => XS.ifYes X22.here hx rfl (pc0 := 131) (pc' := 212) rfl (hb hby at_131) rfl ((if0 _ _).trans (teq hc24).1) (by decide) (by decide) k) ?_
      show own_Fin _ _ _ _ _ _ _ (T22.setTop (mkF m 212 #[.val (.long q0), .second, .val (.long q1), .second, .val (.int p2), .val (.int p3), .val (.long (own_f1 p2)), .second, .val (.long z3), .second, .val (.long (own_f1 p3)), .second, .val (.int z23), .unset, .unset] []))
      refine own_go (fun _ k => X22.ldc2Long hx hown (mvT hZ (hw _ (List.mem_of_getElem? (i := 11) rfl))) (g := (mkF m 212 #[.val (.long q0), .second, .val (.long q1), .second, .val (.int p2), .val (.int p3), .val (.long (own_f1 p2)), .second, .val (.long z3), .second, .val (.long (own_f1 p3)), .second, .val (.int z23), .unset, .unset] [])) rfl (hb hby at_212) _ k) ?_
      show own_Fin _ _ _ _ _ _ _ (T22.setTop (mkF m 215 #[.val (.long q0), .second, .val (.long q1), .second, .val (.int p2), .val (.int p3), .val (.long (own_f1 p2)), .second, .val (.long z3), .second, .val (.long (own_f1 p3)), .second, .val (.int z23), .unset, .unset] [(.long (-1 : Int64))]))
      refine own_go (fun _ k => XS.lstore X22.here hx rfl (hb hby at_215) rfl (l' := #[.val (.long q0), .second, .val (.long q1), .second, .val (.int p2), .val (.int p3), .val (.long (own_f1 p2)), .second, .val (.long z3), .second, .val (.long (own_f1 p3)), .second, .val (.int z23), .val (.long (-1 : Int64)), .second]) rfl k) ?_
      show own_Fin _ _ _ _ _ _ _ (T22.setTop (mkF m 217 #[.val (.long q0), .second, .val (.long q1), .second, .val (.int p2), .val (.int p3), .val (.long (own_f1 p2)), .second, .val (.long z3), .second, .val (.long (own_f1 p3)), .second, .val (.int z23), .val (.long (-1 : Int64)), .second] []))
      have kj := hk25 T22 _ (own_mono X22 (by decide) (by decide)) N22 e22
      simpa only [if_pos hc24] using kj
    · refine own_go (fun _ k => XS.ifNo X22.here hx rfl (hb hby at_131) rfl ((if0 _ _).trans (feq hc24).1) k) ?_
      show own_Fin _ _ _ _ _ _ _ (T22.setTop (mkF m 134 #[.val (.long q0), .second, .val (.long q1), .second, .val (.int p2), .val (.int p3), .val (.long (own_f1 p2)), .second, .val (.long z3), .second, .val (.long (own_f1 p3)), .second, .val (.int z23), .unset, .unset] []))
      refine own_go (fun _ k => XS.lload X22.here hx rfl (hb hby at_134) rfl k) ?_
      show own_Fin _ _ _ _ _ _ _ (T22.setTop (mkF m 136 #[.val (.long q0), .second, .val (.long q1), .second, .val (.int p2), .val (.int p3), .val (.long (own_f1 p2)), .second, .val (.long z3), .second, .val (.long (own_f1 p3)), .second, .val (.int z23), .unset, .unset] [(.long z3)]))
      refine own_go (fun _ k => XS.iload X22.here hx rfl (hb hby at_136) rfl k) ?_
      show own_Fin _ _ _ _ _ _ _ (T22.setTop (mkF m 138 #[.val (.long q0), .second, .val (.long q1), .second, .val (.int p2), .val (.int p3), .val (.long (own_f1 p2)), .second, .val (.long z3), .second, .val (.long (own_f1 p3)), .second, .val (.int z23), .unset, .unset] [(.int p3), (.long z3)]))
      refine own_go (fun _ k => XS.iconst X22.here hx rfl (hb hby at_138) k) ?_
      show own_Fin _ _ _ _ _ _ _ (T22.setTop (mkF m 139 #[.val (.long q0), .second, .val (.long q1), .second, .val (.int p2), .val (.int p3), .val (.long (own_f1 p2)), .second, .val (.long z3), .second, .val (.long (own_f1 p3)), .second, .val (.int z23), .unset, .unset] [(.int (0 : Int32)), (.int p3), (.long z3)]))
      obtain ⟨_, _, ⟨T26, L26, k26, n26⟩, -, X26, ⟨Lc26, hQ26, l26, y26, z26⟩, st26⟩ := Jvm.LawKit.callS X22 hx (y := (⟨"com/example/plain_tariff/plaintariff/ByteWordsDigitsPinLaw", "val", "(JII)J"⟩ : MethodName)) hown (mvT hZ (hw _ (List.mem_of_getElem? (i := 16) rfl))) (mvT hZ (hw _ (List.mem_of_getElem? (i := 17) rfl))) (mvT hZ (hw _ (List.mem_of_getElem? (i := 2) rfl))) (mvT hZ (hw _ (List.mem_of_getElem? (i := 18) rfl))) (by decide) (backOf (W := 0) (rm5 l Z a0 hw [] z3 p3 (0 : Int32) h0 n0 Z0) hZ (hw _ (List.mem_of_getElem? (i := 18) rfl)) (hw _ (List.mem_of_getElem? (i := 2) rfl)) (by decide) (by decide)) (g := (mkF m 139 #[.val (.long q0), .second, .val (.long q1), .second, .val (.int p2), .val (.int p3), .val (.long (own_f1 p2)), .second, .val (.long z3), .second, .val (.long (own_f1 p3)), .second, .val (.int z23), .unset, .unset] [(.int (0 : Int32)), (.int p3), (.long z3)])) rfl (by rw [hml]; rfl) (argsL := [(.long z3), (.int p3), (.int (0 : Int32))]) (rest := []) (lenOf own_pd217 rfl) rfl (by show 2 * 0 + _ ≤ _; exact Nat.le_of_eq rfl) (hb hby at_139) (fun _ _ => ⟨rfl, e22, (by decide : 0 + 0 ≤ _), (by decide : 0 + 0 ≤ _)⟩)
      dsimp only [Pt.U, Pt.locs, Pt.cells, Pt.slots] at X26 l26 y26 z26 st26 hQ26
      replace y26 : 0 = k26 := y26.symm
      replace z26 : 0 = n26 := z26.symm
      subst y26 z26
      obtain ⟨rfl, N26q, e26⟩ := hQ26
      have N26 : Fr n0 L26 := by rw [l26]; exact Fr.app N22 N26q
      refine own_go (fun tg k => st26 tg k) ?_
      show own_Fin _ _ _ _ _ _ _ (T26.setTop (mkF m 142 #[.val (.long q0), .second, .val (.long q1), .second, .val (.int p2), .val (.int p3), .val (.long (own_f1 p2)), .second, .val (.long z3), .second, .val (.long (own_f1 p3)), .second, .val (.int z23), .unset, .unset] [(.long (own_f5 z3 p3 (0 : Int32)))]))
      refine own_go (fun _ k => XS.lload X26.here hx rfl (hb hby at_142) rfl k) ?_
      show own_Fin _ _ _ _ _ _ _ (T26.setTop (mkF m 144 #[.val (.long q0), .second, .val (.long q1), .second, .val (.int p2), .val (.int p3), .val (.long (own_f1 p2)), .second, .val (.long z3), .second, .val (.long (own_f1 p3)), .second, .val (.int z23), .unset, .unset] [(.long z3), (.long (own_f5 z3 p3 (0 : Int32)))]))
      refine own_go (fun _ k => XS.iload X26.here hx rfl (hb hby at_144) rfl k) ?_
      show own_Fin _ _ _ _ _ _ _ (T26.setTop (mkF m 146 #[.val (.long q0), .second, .val (.long q1), .second, .val (.int p2), .val (.int p3), .val (.long (own_f1 p2)), .second, .val (.long z3), .second, .val (.long (own_f1 p3)), .second, .val (.int z23), .unset, .unset] [(.int p3), (.long z3), (.long (own_f5 z3 p3 (0 : Int32)))]))
      refine own_go (fun _ k => XS.iconst X26.here hx rfl (hb hby at_146) k) ?_
      show own_Fin _ _ _ _ _ _ _ (T26.setTop (mkF m 147 #[.val (.long q0), .second, .val (.long q1), .second, .val (.int p2), .val (.int p3), .val (.long (own_f1 p2)), .second, .val (.long z3), .second, .val (.long (own_f1 p3)), .second, .val (.int z23), .unset, .unset] [(.int (1 : Int32)), (.int p3), (.long z3), (.long (own_f5 z3 p3 (0 : Int32)))]))
      obtain ⟨_, _, ⟨T27, L27, k27, n27⟩, -, X27, ⟨Lc27, hQ27, l27, y27, z27⟩, st27⟩ := Jvm.LawKit.callS X26 hx (y := (⟨"com/example/plain_tariff/plaintariff/ByteWordsDigitsPinLaw", "val", "(JII)J"⟩ : MethodName)) hown (mvT hZ (hw _ (List.mem_of_getElem? (i := 16) rfl))) (mvT hZ (hw _ (List.mem_of_getElem? (i := 17) rfl))) (mvT hZ (hw _ (List.mem_of_getElem? (i := 2) rfl))) (mvT hZ (hw _ (List.mem_of_getElem? (i := 18) rfl))) (by decide) (backOf (W := 2) (rm5 l Z a0 hw [] z3 p3 (1 : Int32) h0 n0 Z0) hZ (hw _ (List.mem_of_getElem? (i := 18) rfl)) (hw _ (List.mem_of_getElem? (i := 2) rfl)) (by decide) (by decide)) (g := (mkF m 147 #[.val (.long q0), .second, .val (.long q1), .second, .val (.int p2), .val (.int p3), .val (.long (own_f1 p2)), .second, .val (.long z3), .second, .val (.long (own_f1 p3)), .second, .val (.int z23), .unset, .unset] [(.int (1 : Int32)), (.int p3), (.long z3), (.long (own_f5 z3 p3 (0 : Int32)))])) rfl (by rw [hml]; rfl) (argsL := [(.long z3), (.int p3), (.int (1 : Int32))]) (rest := [(.long (own_f5 z3 p3 (0 : Int32)))]) (lenOf own_pd217 rfl) rfl (by show 2 * 0 + _ ≤ _; exact Nat.le_of_eq rfl) (hb hby at_147) (fun _ _ => ⟨rfl, e26, (by decide : 0 + 0 ≤ _), (by decide : 0 + 0 ≤ _)⟩)
      dsimp only [Pt.U, Pt.locs, Pt.cells, Pt.slots] at X27 l27 y27 z27 st27 hQ27
      replace y27 : 0 = k27 := y27.symm
      replace z27 : 0 = n27 := z27.symm
      subst y27 z27
      obtain ⟨rfl, N27q, e27⟩ := hQ27
      have N27 : Fr n0 L27 := by rw [l27]; exact Fr.app N26 N27q
      refine own_go (fun tg k => st27 tg k) ?_
      show own_Fin _ _ _ _ _ _ _ (T27.setTop (mkF m 150 #[.val (.long q0), .second, .val (.long q1), .second, .val (.int p2), .val (.int p3), .val (.long (own_f1 p2)), .second, .val (.long z3), .second, .val (.long (own_f1 p3)), .second, .val (.int z23), .unset, .unset] [(.long (own_f5 z3 p3 (1 : Int32))), (.long (own_f5 z3 p3 (0 : Int32)))]))
      refine own_go (fun _ k => XS.lor X27.here hx rfl (hb hby at_150) rfl k) ?_
      show own_Fin _ _ _ _ _ _ _ (T27.setTop (mkF m 151 #[.val (.long q0), .second, .val (.long q1), .second, .val (.int p2), .val (.int p3), .val (.long (own_f1 p2)), .second, .val (.long z3), .second, .val (.long (own_f1 p3)), .second, .val (.int z23), .unset, .unset] [(.long ((own_f5 z3 p3 (0 : Int32)) ||| (own_f5 z3 p3 (1 : Int32))))]))
      refine own_go (fun _ k => XS.lload X27.here hx rfl (hb hby at_151) rfl k) ?_
      show own_Fin _ _ _ _ _ _ _ (T27.setTop (mkF m 153 #[.val (.long q0), .second, .val (.long q1), .second, .val (.int p2), .val (.int p3), .val (.long (own_f1 p2)), .second, .val (.long z3), .second, .val (.long (own_f1 p3)), .second, .val (.int z23), .unset, .unset] [(.long z3), (.long ((own_f5 z3 p3 (0 : Int32)) ||| (own_f5 z3 p3 (1 : Int32))))]))
      refine own_go (fun _ k => XS.iload X27.here hx rfl (hb hby at_153) rfl k) ?_
      show own_Fin _ _ _ _ _ _ _ (T27.setTop (mkF m 155 #[.val (.long q0), .second, .val (.long q1), .second, .val (.int p2), .val (.int p3), .val (.long (own_f1 p2)), .second, .val (.long z3), .second, .val (.long (own_f1 p3)), .second, .val (.int z23), .unset, .unset] [(.int p3), (.long z3), (.long ((own_f5 z3 p3 (0 : Int32)) ||| (own_f5 z3 p3 (1 : Int32))))]))
      refine own_go (fun _ k => XS.iconst X27.here hx rfl (hb hby at_155) k) ?_
      show own_Fin _ _ _ _ _ _ _ (T27.setTop (mkF m 156 #[.val (.long q0), .second, .val (.long q1), .second, .val (.int p2), .val (.int p3), .val (.long (own_f1 p2)), .second, .val (.long z3), .second, .val (.long (own_f1 p3)), .second, .val (.int z23), .unset, .unset] [(.int (2 : Int32)), (.int p3), (.long z3), (.long ((own_f5 z3 p3 (0 : Int32)) ||| (own_f5 z3 p3 (1 : Int32))))]))
      obtain ⟨_, _, ⟨T28, L28, k28, n28⟩, -, X28, ⟨Lc28, hQ28, l28, y28, z28⟩, st28⟩ := Jvm.LawKit.callS X27 hx (y := (⟨"com/example/plain_tariff/plaintariff/ByteWordsDigitsPinLaw", "val", "(JII)J"⟩ : MethodName)) hown (mvT hZ (hw _ (List.mem_of_getElem? (i := 16) rfl))) (mvT hZ (hw _ (List.mem_of_getElem? (i := 17) rfl))) (mvT hZ (hw _ (List.mem_of_getElem? (i := 2) rfl))) (mvT hZ (hw _ (List.mem_of_getElem? (i := 18) rfl))) (by decide) (backOf (W := 2) (rm5 l Z a0 hw [] z3 p3 (2 : Int32) h0 n0 Z0) hZ (hw _ (List.mem_of_getElem? (i := 18) rfl)) (hw _ (List.mem_of_getElem? (i := 2) rfl)) (by decide) (by decide)) (g := (mkF m 156 #[.val (.long q0), .second, .val (.long q1), .second, .val (.int p2), .val (.int p3), .val (.long (own_f1 p2)), .second, .val (.long z3), .second, .val (.long (own_f1 p3)), .second, .val (.int z23), .unset, .unset] [(.int (2 : Int32)), (.int p3), (.long z3), (.long ((own_f5 z3 p3 (0 : Int32)) ||| (own_f5 z3 p3 (1 : Int32))))])) rfl (by rw [hml]; rfl) (argsL := [(.long z3), (.int p3), (.int (2 : Int32))]) (rest := [(.long ((own_f5 z3 p3 (0 : Int32)) ||| (own_f5 z3 p3 (1 : Int32))))]) (lenOf own_pd217 rfl) rfl (by show 2 * 0 + _ ≤ _; exact Nat.le_of_eq rfl) (hb hby at_156) (fun _ _ => ⟨rfl, e27, (by decide : 0 + 0 ≤ _), (by decide : 0 + 0 ≤ _)⟩)
      dsimp only [Pt.U, Pt.locs, Pt.cells, Pt.slots] at X28 l28 y28 z28 st28 hQ28
      replace y28 : 0 = k28 := y28.symm
      replace z28 : 0 = n28 := z28.symm
      subst y28 z28
      obtain ⟨rfl, N28q, e28⟩ := hQ28
      have N28 : Fr n0 L28 := by rw [l28]; exact Fr.app N27 N28q
      refine own_go (fun tg k => st28 tg k) ?_
      show own_Fin _ _ _ _ _ _ _ (T28.setTop (mkF m 159 #[.val (.long q0), .second, .val (.long q1), .second, .val (.int p2), .val (.int p3), .val (.long (own_f1 p2)), .second, .val (.long z3), .second, .val (.long (own_f1 p3)), .second, .val (.int z23), .unset, .unset] [(.long (own_f5 z3 p3 (2 : Int32))), (.long ((own_f5 z3 p3 (0 : Int32)) ||| (own_f5 z3 p3 (1 : Int32))))]))
      refine own_go (fun _ k => XS.lor X28.here hx rfl (hb hby at_159) rfl k) ?_
      show own_Fin _ _ _ _ _ _ _ (T28.setTop (mkF m 160 #[.val (.long q0), .second, .val (.long q1), .second, .val (.int p2), .val (.int p3), .val (.long (own_f1 p2)), .second, .val (.long z3), .second, .val (.long (own_f1 p3)), .second, .val (.int z23), .unset, .unset] [(.long (((own_f5 z3 p3 (0 : Int32)) ||| (own_f5 z3 p3 (1 : Int32))) ||| (own_f5 z3 p3 (2 : Int32))))]))
      refine own_go (fun _ k => XS.lload X28.here hx rfl (hb hby at_160) rfl k) ?_
      show own_Fin _ _ _ _ _ _ _ (T28.setTop (mkF m 162 #[.val (.long q0), .second, .val (.long q1), .second, .val (.int p2), .val (.int p3), .val (.long (own_f1 p2)), .second, .val (.long z3), .second, .val (.long (own_f1 p3)), .second, .val (.int z23), .unset, .unset] [(.long z3), (.long (((own_f5 z3 p3 (0 : Int32)) ||| (own_f5 z3 p3 (1 : Int32))) ||| (own_f5 z3 p3 (2 : Int32))))]))
      refine own_go (fun _ k => XS.iload X28.here hx rfl (hb hby at_162) rfl k) ?_
      show own_Fin _ _ _ _ _ _ _ (T28.setTop (mkF m 164 #[.val (.long q0), .second, .val (.long q1), .second, .val (.int p2), .val (.int p3), .val (.long (own_f1 p2)), .second, .val (.long z3), .second, .val (.long (own_f1 p3)), .second, .val (.int z23), .unset, .unset] [(.int p3), (.long z3), (.long (((own_f5 z3 p3 (0 : Int32)) ||| (own_f5 z3 p3 (1 : Int32))) ||| (own_f5 z3 p3 (2 : Int32))))]))
      refine own_go (fun _ k => XS.iconst X28.here hx rfl (hb hby at_164) k) ?_
      show own_Fin _ _ _ _ _ _ _ (T28.setTop (mkF m 165 #[.val (.long q0), .second, .val (.long q1), .second, .val (.int p2), .val (.int p3), .val (.long (own_f1 p2)), .second, .val (.long z3), .second, .val (.long (own_f1 p3)), .second, .val (.int z23), .unset, .unset] [(.int (3 : Int32)), (.int p3), (.long z3), (.long (((own_f5 z3 p3 (0 : Int32)) ||| (own_f5 z3 p3 (1 : Int32))) ||| (own_f5 z3 p3 (2 : Int32))))]))
      obtain ⟨_, _, ⟨T29, L29, k29, n29⟩, -, X29, ⟨Lc29, hQ29, l29, y29, z29⟩, st29⟩ := Jvm.LawKit.callS X28 hx (y := (⟨"com/example/plain_tariff/plaintariff/ByteWordsDigitsPinLaw", "val", "(JII)J"⟩ : MethodName)) hown (mvT hZ (hw _ (List.mem_of_getElem? (i := 16) rfl))) (mvT hZ (hw _ (List.mem_of_getElem? (i := 17) rfl))) (mvT hZ (hw _ (List.mem_of_getElem? (i := 2) rfl))) (mvT hZ (hw _ (List.mem_of_getElem? (i := 18) rfl))) (by decide) (backOf (W := 2) (rm5 l Z a0 hw [] z3 p3 (3 : Int32) h0 n0 Z0) hZ (hw _ (List.mem_of_getElem? (i := 18) rfl)) (hw _ (List.mem_of_getElem? (i := 2) rfl)) (by decide) (by decide)) (g := (mkF m 165 #[.val (.long q0), .second, .val (.long q1), .second, .val (.int p2), .val (.int p3), .val (.long (own_f1 p2)), .second, .val (.long z3), .second, .val (.long (own_f1 p3)), .second, .val (.int z23), .unset, .unset] [(.int (3 : Int32)), (.int p3), (.long z3), (.long (((own_f5 z3 p3 (0 : Int32)) ||| (own_f5 z3 p3 (1 : Int32))) ||| (own_f5 z3 p3 (2 : Int32))))])) rfl (by rw [hml]; rfl) (argsL := [(.long z3), (.int p3), (.int (3 : Int32))]) (rest := [(.long (((own_f5 z3 p3 (0 : Int32)) ||| (own_f5 z3 p3 (1 : Int32))) ||| (own_f5 z3 p3 (2 : Int32))))]) (lenOf own_pd217 rfl) rfl (by show 2 * 0 + _ ≤ _; exact Nat.le_of_eq rfl) (hb hby at_165) (fun _ _ => ⟨rfl, e28, (by decide : 0 + 0 ≤ _), (by decide : 0 + 0 ≤ _)⟩)
      dsimp only [Pt.U, Pt.locs, Pt.cells, Pt.slots] at X29 l29 y29 z29 st29 hQ29
      replace y29 : 0 = k29 := y29.symm
      replace z29 : 0 = n29 := z29.symm
      subst y29 z29
      obtain ⟨rfl, N29q, e29⟩ := hQ29
      have N29 : Fr n0 L29 := by rw [l29]; exact Fr.app N28 N29q
      refine own_go (fun tg k => st29 tg k) ?_
      show own_Fin _ _ _ _ _ _ _ (T29.setTop (mkF m 168 #[.val (.long q0), .second, .val (.long q1), .second, .val (.int p2), .val (.int p3), .val (.long (own_f1 p2)), .second, .val (.long z3), .second, .val (.long (own_f1 p3)), .second, .val (.int z23), .unset, .unset] [(.long (own_f5 z3 p3 (3 : Int32))), (.long (((own_f5 z3 p3 (0 : Int32)) ||| (own_f5 z3 p3 (1 : Int32))) ||| (own_f5 z3 p3 (2 : Int32))))]))
      refine own_go (fun _ k => XS.lor X29.here hx rfl (hb hby at_168) rfl k) ?_
      show own_Fin _ _ _ _ _ _ _ (T29.setTop (mkF m 169 #[.val (.long q0), .second, .val (.long q1), .second, .val (.int p2), .val (.int p3), .val (.long (own_f1 p2)), .second, .val (.long z3), .second, .val (.long (own_f1 p3)), .second, .val (.int z23), .unset, .unset] [(.long ((((own_f5 z3 p3 (0 : Int32)) ||| (own_f5 z3 p3 (1 : Int32))) ||| (own_f5 z3 p3 (2 : Int32))) ||| (own_f5 z3 p3 (3 : Int32))))]))
      refine own_go (fun _ k => XS.lload X29.here hx rfl (hb hby at_169) rfl k) ?_
      show own_Fin _ _ _ _ _ _ _ (T29.setTop (mkF m 171 #[.val (.long q0), .second, .val (.long q1), .second, .val (.int p2), .val (.int p3), .val (.long (own_f1 p2)), .second, .val (.long z3), .second, .val (.long (own_f1 p3)), .second, .val (.int z23), .unset, .unset] [(.long z3), (.long ((((own_f5 z3 p3 (0 : Int32)) ||| (own_f5 z3 p3 (1 : Int32))) ||| (own_f5 z3 p3 (2 : Int32))) ||| (own_f5 z3 p3 (3 : Int32))))]))
      refine own_go (fun _ k => XS.iload X29.here hx rfl (hb hby at_171) rfl k) ?_
      show own_Fin _ _ _ _ _ _ _ (T29.setTop (mkF m 173 #[.val (.long q0), .second, .val (.long q1), .second, .val (.int p2), .val (.int p3), .val (.long (own_f1 p2)), .second, .val (.long z3), .second, .val (.long (own_f1 p3)), .second, .val (.int z23), .unset, .unset] [(.int p3), (.long z3), (.long ((((own_f5 z3 p3 (0 : Int32)) ||| (own_f5 z3 p3 (1 : Int32))) ||| (own_f5 z3 p3 (2 : Int32))) ||| (own_f5 z3 p3 (3 : Int32))))]))
      refine own_go (fun _ k => XS.iconst X29.here hx rfl (hb hby at_173) k) ?_
      show own_Fin _ _ _ _ _ _ _ (T29.setTop (mkF m 174 #[.val (.long q0), .second, .val (.long q1), .second, .val (.int p2), .val (.int p3), .val (.long (own_f1 p2)), .second, .val (.long z3), .second, .val (.long (own_f1 p3)), .second, .val (.int z23), .unset, .unset] [(.int (4 : Int32)), (.int p3), (.long z3), (.long ((((own_f5 z3 p3 (0 : Int32)) ||| (own_f5 z3 p3 (1 : Int32))) ||| (own_f5 z3 p3 (2 : Int32))) ||| (own_f5 z3 p3 (3 : Int32))))]))
      obtain ⟨_, _, ⟨T30, L30, k30, n30⟩, -, X30, ⟨Lc30, hQ30, l30, y30, z30⟩, st30⟩ := Jvm.LawKit.callS X29 hx (y := (⟨"com/example/plain_tariff/plaintariff/ByteWordsDigitsPinLaw", "val", "(JII)J"⟩ : MethodName)) hown (mvT hZ (hw _ (List.mem_of_getElem? (i := 16) rfl))) (mvT hZ (hw _ (List.mem_of_getElem? (i := 17) rfl))) (mvT hZ (hw _ (List.mem_of_getElem? (i := 2) rfl))) (mvT hZ (hw _ (List.mem_of_getElem? (i := 18) rfl))) (by decide) (backOf (W := 2) (rm5 l Z a0 hw [] z3 p3 (4 : Int32) h0 n0 Z0) hZ (hw _ (List.mem_of_getElem? (i := 18) rfl)) (hw _ (List.mem_of_getElem? (i := 2) rfl)) (by decide) (by decide)) (g := (mkF m 174 #[.val (.long q0), .second, .val (.long q1), .second, .val (.int p2), .val (.int p3), .val (.long (own_f1 p2)), .second, .val (.long z3), .second, .val (.long (own_f1 p3)), .second, .val (.int z23), .unset, .unset] [(.int (4 : Int32)), (.int p3), (.long z3), (.long ((((own_f5 z3 p3 (0 : Int32)) ||| (own_f5 z3 p3 (1 : Int32))) ||| (own_f5 z3 p3 (2 : Int32))) ||| (own_f5 z3 p3 (3 : Int32))))])) rfl (by rw [hml]; rfl) (argsL := [(.long z3), (.int p3), (.int (4 : Int32))]) (rest := [(.long ((((own_f5 z3 p3 (0 : Int32)) ||| (own_f5 z3 p3 (1 : Int32))) ||| (own_f5 z3 p3 (2 : Int32))) ||| (own_f5 z3 p3 (3 : Int32))))]) (lenOf own_pd217 rfl) rfl (by show 2 * 0 + _ ≤ _; exact Nat.le_of_eq rfl) (hb hby at_174) (fun _ _ => ⟨rfl, e29, (by decide : 0 + 0 ≤ _), (by decide : 0 + 0 ≤ _)⟩)
      dsimp only [Pt.U, Pt.locs, Pt.cells, Pt.slots] at X30 l30 y30 z30 st30 hQ30
      replace y30 : 0 = k30 := y30.symm
      replace z30 : 0 = n30 := z30.symm
      subst y30 z30
      obtain ⟨rfl, N30q, e30⟩ := hQ30
      have N30 : Fr n0 L30 := by rw [l30]; exact Fr.app N29 N30q
      refine own_go (fun tg k => st30 tg k) ?_
      show own_Fin _ _ _ _ _ _ _ (T30.setTop (mkF m 177 #[.val (.long q0), .second, .val (.long q1), .second, .val (.int p2), .val (.int p3), .val (.long (own_f1 p2)), .second, .val (.long z3), .second, .val (.long (own_f1 p3)), .second, .val (.int z23), .unset, .unset] [(.long (own_f5 z3 p3 (4 : Int32))), (.long ((((own_f5 z3 p3 (0 : Int32)) ||| (own_f5 z3 p3 (1 : Int32))) ||| (own_f5 z3 p3 (2 : Int32))) ||| (own_f5 z3 p3 (3 : Int32))))]))
      refine own_go (fun _ k => XS.lor X30.here hx rfl (hb hby at_177) rfl k) ?_
      show own_Fin _ _ _ _ _ _ _ (T30.setTop (mkF m 178 #[.val (.long q0), .second, .val (.long q1), .second, .val (.int p2), .val (.int p3), .val (.long (own_f1 p2)), .second, .val (.long z3), .second, .val (.long (own_f1 p3)), .second, .val (.int z23), .unset, .unset] [(.long (((((own_f5 z3 p3 (0 : Int32)) ||| (own_f5 z3 p3 (1 : Int32))) ||| (own_f5 z3 p3 (2 : Int32))) ||| (own_f5 z3 p3 (3 : Int32))) ||| (own_f5 z3 p3 (4 : Int32))))]))
      generalize hz31 : (((((own_f5 z3 p3 (0 : Int32)) ||| (own_f5 z3 p3 (1 : Int32))) ||| (own_f5 z3 p3 (2 : Int32))) ||| (own_f5 z3 p3 (3 : Int32))) ||| (own_f5 z3 p3 (4 : Int32))) = z31
      show own_Fin _ _ _ _ _ _ _ (T30.setTop (mkF m 178 #[.val (.long q0), .second, .val (.long q1), .second, .val (.int p2), .val (.int p3), .val (.long (own_f1 p2)), .second, .val (.long z3), .second, .val (.long (own_f1 p3)), .second, .val (.int z23), .unset, .unset] [(.long z31)]))
      refine own_go (fun _ k => XS.lload X30.here hx rfl (hb hby at_178) rfl k) ?_
      show own_Fin _ _ _ _ _ _ _ (T30.setTop (mkF m 180 #[.val (.long q0), .second, .val (.long q1), .second, .val (.int p2), .val (.int p3), .val (.long (own_f1 p2)), .second, .val (.long z3), .second, .val (.long (own_f1 p3)), .second, .val (.int z23), .unset, .unset] [(.long z3), (.long z31)]))
      refine own_go (fun _ k => XS.iload X30.here hx rfl (hb hby at_180) rfl k) ?_
      show own_Fin _ _ _ _ _ _ _ (T30.setTop (mkF m 182 #[.val (.long q0), .second, .val (.long q1), .second, .val (.int p2), .val (.int p3), .val (.long (own_f1 p2)), .second, .val (.long z3), .second, .val (.long (own_f1 p3)), .second, .val (.int z23), .unset, .unset] [(.int p3), (.long z3), (.long z31)]))
      refine own_go (fun _ k => XS.iconst X30.here hx rfl (hb hby at_182) k) ?_
      show own_Fin _ _ _ _ _ _ _ (T30.setTop (mkF m 183 #[.val (.long q0), .second, .val (.long q1), .second, .val (.int p2), .val (.int p3), .val (.long (own_f1 p2)), .second, .val (.long z3), .second, .val (.long (own_f1 p3)), .second, .val (.int z23), .unset, .unset] [(.int (5 : Int32)), (.int p3), (.long z3), (.long z31)]))
      obtain ⟨_, _, ⟨T32, L32, k32, n32⟩, -, X32, ⟨Lc32, hQ32, l32, y32, z32⟩, st32⟩ := Jvm.LawKit.callS X30 hx (y := (⟨"com/example/plain_tariff/plaintariff/ByteWordsDigitsPinLaw", "val", "(JII)J"⟩ : MethodName)) hown (mvT hZ (hw _ (List.mem_of_getElem? (i := 16) rfl))) (mvT hZ (hw _ (List.mem_of_getElem? (i := 17) rfl))) (mvT hZ (hw _ (List.mem_of_getElem? (i := 2) rfl))) (mvT hZ (hw _ (List.mem_of_getElem? (i := 18) rfl))) (by decide) (backOf (W := 2) (rm5 l Z a0 hw [] z3 p3 (5 : Int32) h0 n0 Z0) hZ (hw _ (List.mem_of_getElem? (i := 18) rfl)) (hw _ (List.mem_of_getElem? (i := 2) rfl)) (by decide) (by decide)) (g := (mkF m 183 #[.val (.long q0), .second, .val (.long q1), .second, .val (.int p2), .val (.int p3), .val (.long (own_f1 p2)), .second, .val (.long z3), .second, .val (.long (own_f1 p3)), .second, .val (.int z23), .unset, .unset] [(.int (5 : Int32)), (.int p3), (.long z3), (.long z31)])) rfl (by rw [hml]; rfl) (argsL := [(.long z3), (.int p3), (.int (5 : Int32))]) (rest := [(.long z31)]) (lenOf own_pd217 rfl) rfl (by show 2 * 0 + _ ≤ _; exact Nat.le_of_eq rfl) (hb hby at_183) (fun _ _ => ⟨rfl, e30, (by decide : 0 + 0 ≤ _), (by decide : 0 + 0 ≤ _)⟩)
      dsimp only [Pt.U, Pt.locs, Pt.cells, Pt.slots] at X32 l32 y32 z32 st32 hQ32
      replace y32 : 0 = k32 := y32.symm
      replace z32 : 0 = n32 := z32.symm
      subst y32 z32
      obtain ⟨rfl, N32q, e32⟩ := hQ32
      have N32 : Fr n0 L32 := by rw [l32]; exact Fr.app N30 N32q
      refine own_go (fun tg k => st32 tg k) ?_
      show own_Fin _ _ _ _ _ _ _ (T32.setTop (mkF m 186 #[.val (.long q0), .second, .val (.long q1), .second, .val (.int p2), .val (.int p3), .val (.long (own_f1 p2)), .second, .val (.long z3), .second, .val (.long (own_f1 p3)), .second, .val (.int z23), .unset, .unset] [(.long (own_f5 z3 p3 (5 : Int32))), (.long z31)]))
      refine own_go (fun _ k => XS.lor X32.here hx rfl (hb hby at_186) rfl k) ?_
      show own_Fin _ _ _ _ _ _ _ (T32.setTop (mkF m 187 #[.val (.long q0), .second, .val (.long q1), .second, .val (.int p2), .val (.int p3), .val (.long (own_f1 p2)), .second, .val (.long z3), .second, .val (.long (own_f1 p3)), .second, .val (.int z23), .unset, .unset] [(.long (z31 ||| (own_f5 z3 p3 (5 : Int32))))]))
      refine own_go (fun _ k => XS.lload X32.here hx rfl (hb hby at_187) rfl k) ?_
      show own_Fin _ _ _ _ _ _ _ (T32.setTop (mkF m 189 #[.val (.long q0), .second, .val (.long q1), .second, .val (.int p2), .val (.int p3), .val (.long (own_f1 p2)), .second, .val (.long z3), .second, .val (.long (own_f1 p3)), .second, .val (.int z23), .unset, .unset] [(.long z3), (.long (z31 ||| (own_f5 z3 p3 (5 : Int32))))]))
      refine own_go (fun _ k => XS.iload X32.here hx rfl (hb hby at_189) rfl k) ?_
      show own_Fin _ _ _ _ _ _ _ (T32.setTop (mkF m 191 #[.val (.long q0), .second, .val (.long q1), .second, .val (.int p2), .val (.int p3), .val (.long (own_f1 p2)), .second, .val (.long z3), .second, .val (.long (own_f1 p3)), .second, .val (.int z23), .unset, .unset] [(.int p3), (.long z3), (.long (z31 ||| (own_f5 z3 p3 (5 : Int32))))]))
      refine own_go (fun _ k => XS.bipush X32.here hx rfl (hb hby at_191) k) ?_
      show own_Fin _ _ _ _ _ _ _ (T32.setTop (mkF m 193 #[.val (.long q0), .second, .val (.long q1), .second, .val (.int p2), .val (.int p3), .val (.long (own_f1 p2)), .second, .val (.long z3), .second, .val (.long (own_f1 p3)), .second, .val (.int z23), .unset, .unset] [(.int (6 : Int32)), (.int p3), (.long z3), (.long (z31 ||| (own_f5 z3 p3 (5 : Int32))))]))
      obtain ⟨_, _, ⟨T33, L33, k33, n33⟩, -, X33, ⟨Lc33, hQ33, l33, y33, z33⟩, st33⟩ := Jvm.LawKit.callS X32 hx (y := (⟨"com/example/plain_tariff/plaintariff/ByteWordsDigitsPinLaw", "val", "(JII)J"⟩ : MethodName)) hown (mvT hZ (hw _ (List.mem_of_getElem? (i := 16) rfl))) (mvT hZ (hw _ (List.mem_of_getElem? (i := 17) rfl))) (mvT hZ (hw _ (List.mem_of_getElem? (i := 2) rfl))) (mvT hZ (hw _ (List.mem_of_getElem? (i := 18) rfl))) (by decide) (backOf (W := 2) (rm5 l Z a0 hw [] z3 p3 (6 : Int32) h0 n0 Z0) hZ (hw _ (List.mem_of_getElem? (i := 18) rfl)) (hw _ (List.mem_of_getElem? (i := 2) rfl)) (by decide) (by decide)) (g := (mkF m 193 #[.val (.long q0), .second, .val (.long q1), .second, .val (.int p2), .val (.int p3), .val (.long (own_f1 p2)), .second, .val (.long z3), .second, .val (.long (own_f1 p3)), .second, .val (.int z23), .unset, .unset] [(.int (6 : Int32)), (.int p3), (.long z3), (.long (z31 ||| (own_f5 z3 p3 (5 : Int32))))])) rfl (by rw [hml]; rfl) (argsL := [(.long z3), (.int p3), (.int (6 : Int32))]) (rest := [(.long (z31 ||| (own_f5 z3 p3 (5 : Int32))))]) (lenOf own_pd217 rfl) rfl (by show 2 * 0 + _ ≤ _; exact Nat.le_of_eq rfl) (hb hby at_193) (fun _ _ => ⟨rfl, e32, (by decide : 0 + 0 ≤ _), (by decide : 0 + 0 ≤ _)⟩)
      dsimp only [Pt.U, Pt.locs, Pt.cells, Pt.slots] at X33 l33 y33 z33 st33 hQ33
      replace y33 : 0 = k33 := y33.symm
      replace z33 : 0 = n33 := z33.symm
      subst y33 z33
      obtain ⟨rfl, N33q, e33⟩ := hQ33
      have N33 : Fr n0 L33 := by rw [l33]; exact Fr.app N32 N33q
      refine own_go (fun tg k => st33 tg k) ?_
      show own_Fin _ _ _ _ _ _ _ (T33.setTop (mkF m 196 #[.val (.long q0), .second, .val (.long q1), .second, .val (.int p2), .val (.int p3), .val (.long (own_f1 p2)), .second, .val (.long z3), .second, .val (.long (own_f1 p3)), .second, .val (.int z23), .unset, .unset] [(.long (own_f5 z3 p3 (6 : Int32))), (.long (z31 ||| (own_f5 z3 p3 (5 : Int32))))]))
      refine own_go (fun _ k => XS.lor X33.here hx rfl (hb hby at_196) rfl k) ?_
      show own_Fin _ _ _ _ _ _ _ (T33.setTop (mkF m 197 #[.val (.long q0), .second, .val (.long q1), .second, .val (.int p2), .val (.int p3), .val (.long (own_f1 p2)), .second, .val (.long z3), .second, .val (.long (own_f1 p3)), .second, .val (.int z23), .unset, .unset] [(.long ((z31 ||| (own_f5 z3 p3 (5 : Int32))) ||| (own_f5 z3 p3 (6 : Int32))))]))
      refine own_go (fun _ k => XS.lload X33.here hx rfl (hb hby at_197) rfl k) ?_
      show own_Fin _ _ _ _ _ _ _ (T33.setTop (mkF m 199 #[.val (.long q0), .second, .val (.long q1), .second, .val (.int p2), .val (.int p3), .val (.long (own_f1 p2)), .second, .val (.long z3), .second, .val (.long (own_f1 p3)), .second, .val (.int z23), .unset, .unset] [(.long z3), (.long ((z31 ||| (own_f5 z3 p3 (5 : Int32))) ||| (own_f5 z3 p3 (6 : Int32))))]))
      refine own_go (fun _ k => XS.iload X33.here hx rfl (hb hby at_199) rfl k) ?_
      show own_Fin _ _ _ _ _ _ _ (T33.setTop (mkF m 201 #[.val (.long q0), .second, .val (.long q1), .second, .val (.int p2), .val (.int p3), .val (.long (own_f1 p2)), .second, .val (.long z3), .second, .val (.long (own_f1 p3)), .second, .val (.int z23), .unset, .unset] [(.int p3), (.long z3), (.long ((z31 ||| (own_f5 z3 p3 (5 : Int32))) ||| (own_f5 z3 p3 (6 : Int32))))]))
      refine own_go (fun _ k => XS.bipush X33.here hx rfl (hb hby at_201) k) ?_
      show own_Fin _ _ _ _ _ _ _ (T33.setTop (mkF m 203 #[.val (.long q0), .second, .val (.long q1), .second, .val (.int p2), .val (.int p3), .val (.long (own_f1 p2)), .second, .val (.long z3), .second, .val (.long (own_f1 p3)), .second, .val (.int z23), .unset, .unset] [(.int (7 : Int32)), (.int p3), (.long z3), (.long ((z31 ||| (own_f5 z3 p3 (5 : Int32))) ||| (own_f5 z3 p3 (6 : Int32))))]))
      obtain ⟨_, _, ⟨T34, L34, k34, n34⟩, -, X34, ⟨Lc34, hQ34, l34, y34, z34⟩, st34⟩ := Jvm.LawKit.callS X33 hx (y := (⟨"com/example/plain_tariff/plaintariff/ByteWordsDigitsPinLaw", "val", "(JII)J"⟩ : MethodName)) hown (mvT hZ (hw _ (List.mem_of_getElem? (i := 16) rfl))) (mvT hZ (hw _ (List.mem_of_getElem? (i := 17) rfl))) (mvT hZ (hw _ (List.mem_of_getElem? (i := 2) rfl))) (mvT hZ (hw _ (List.mem_of_getElem? (i := 18) rfl))) (by decide) (backOf (W := 2) (rm5 l Z a0 hw [] z3 p3 (7 : Int32) h0 n0 Z0) hZ (hw _ (List.mem_of_getElem? (i := 18) rfl)) (hw _ (List.mem_of_getElem? (i := 2) rfl)) (by decide) (by decide)) (g := (mkF m 203 #[.val (.long q0), .second, .val (.long q1), .second, .val (.int p2), .val (.int p3), .val (.long (own_f1 p2)), .second, .val (.long z3), .second, .val (.long (own_f1 p3)), .second, .val (.int z23), .unset, .unset] [(.int (7 : Int32)), (.int p3), (.long z3), (.long ((z31 ||| (own_f5 z3 p3 (5 : Int32))) ||| (own_f5 z3 p3 (6 : Int32))))])) rfl (by rw [hml]; rfl) (argsL := [(.long z3), (.int p3), (.int (7 : Int32))]) (rest := [(.long ((z31 ||| (own_f5 z3 p3 (5 : Int32))) ||| (own_f5 z3 p3 (6 : Int32))))]) (lenOf own_pd217 rfl) rfl (by show 2 * 0 + _ ≤ _; exact Nat.le_of_eq rfl) (hb hby at_203) (fun _ _ => ⟨rfl, e33, (by decide : 0 + 0 ≤ _), (by decide : 0 + 0 ≤ _)⟩)
      dsimp only [Pt.U, Pt.locs, Pt.cells, Pt.slots] at X34 l34 y34 z34 st34 hQ34
      replace y34 : 0 = k34 := y34.symm
      replace z34 : 0 = n34 := z34.symm
      subst y34 z34
      obtain ⟨rfl, N34q, e34⟩ := hQ34
      have N34 : Fr n0 L34 := by rw [l34]; exact Fr.app N33 N34q
      refine own_go (fun tg k => st34 tg k) ?_
      show own_Fin _ _ _ _ _ _ _ (T34.setTop (mkF m 206 #[.val (.long q0), .second, .val (.long q1), .second, .val (.int p2), .val (.int p3), .val (.long (own_f1 p2)), .second, .val (.long z3), .second, .val (.long (own_f1 p3)), .second, .val (.int z23), .unset, .unset] [(.long (own_f5 z3 p3 (7 : Int32))), (.long ((z31 ||| (own_f5 z3 p3 (5 : Int32))) ||| (own_f5 z3 p3 (6 : Int32))))]))
      refine own_go (fun _ k => XS.lor X34.here hx rfl (hb hby at_206) rfl k) ?_
      show own_Fin _ _ _ _ _ _ _ (T34.setTop (mkF m 207 #[.val (.long q0), .second, .val (.long q1), .second, .val (.int p2), .val (.int p3), .val (.long (own_f1 p2)), .second, .val (.long z3), .second, .val (.long (own_f1 p3)), .second, .val (.int z23), .unset, .unset] [(.long (((z31 ||| (own_f5 z3 p3 (5 : Int32))) ||| (own_f5 z3 p3 (6 : Int32))) ||| (own_f5 z3 p3 (7 : Int32))))]))
      refine own_go (fun _ k => XS.lstore X34.here hx rfl (hb hby at_207) rfl (l' := #[.val (.long q0), .second, .val (.long q1), .second, .val (.int p2), .val (.int p3), .val (.long (own_f1 p2)), .second, .val (.long z3), .second, .val (.long (own_f1 p3)), .second, .val (.int z23), .val (.long (((z31 ||| (own_f5 z3 p3 (5 : Int32))) ||| (own_f5 z3 p3 (6 : Int32))) ||| (own_f5 z3 p3 (7 : Int32)))), .second]) rfl k) ?_
      show own_Fin _ _ _ _ _ _ _ (T34.setTop (mkF m 209 #[.val (.long q0), .second, .val (.long q1), .second, .val (.int p2), .val (.int p3), .val (.long (own_f1 p2)), .second, .val (.long z3), .second, .val (.long (own_f1 p3)), .second, .val (.int z23), .val (.long (((z31 ||| (own_f5 z3 p3 (5 : Int32))) ||| (own_f5 z3 p3 (6 : Int32))) ||| (own_f5 z3 p3 (7 : Int32)))), .second] []))
      generalize hz35 : (((z31 ||| (own_f5 z3 p3 (5 : Int32))) ||| (own_f5 z3 p3 (6 : Int32))) ||| (own_f5 z3 p3 (7 : Int32))) = z35
      show own_Fin _ _ _ _ _ _ _ (T34.setTop (mkF m 209 #[.val (.long q0), .second, .val (.long q1), .second, .val (.int p2), .val (.int p3), .val (.long (own_f1 p2)), .second, .val (.long z3), .second, .val (.long (own_f1 p3)), .second, .val (.int z23), .val (.long z35), .second] []))
      refine own_go (fun _ k => XS.goto X34.here hx rfl (pc0 := 209) (pc' := 217) rfl (hb hby at_209) (by decide) (by decide) k) ?_
      show own_Fin _ _ _ _ _ _ _ (T34.setTop (mkF m 217 #[.val (.long q0), .second, .val (.long q1), .second, .val (.int p2), .val (.int p3), .val (.long (own_f1 p2)), .second, .val (.long z3), .second, .val (.long (own_f1 p3)), .second, .val (.int z23), .val (.long z35), .second] []))
      have kj := hk25 T34 _ (own_mono X34 (by decide) (by decide)) N34 e34
      try subst hz35
      try subst hz31
      simpa only [if_neg hc24] using kj
  by_cases hc6 : (own_f4 z3 p3 (0 : Int32)) = (0 : Int32)
  · refine own_go (fun _ k => XS.ifYes X5.here hx rfl (pc0 := 40) (pc' := 126) rfl (hb hby at_40) rfl ((if0 _ _).trans (teq hc6).1) (by decide) (by decide) k) ?_
    show own_Fin _ _ _ _ _ _ _ (T5.setTop (mkF m 126 #[.val (.long q0), .second, .val (.long q1), .second, .val (.int p2), .val (.int p3), .val (.long (own_f1 p2)), .second, .val (.long z3), .second, .val (.long (own_f1 p3)), .second, .unset, .unset, .unset] []))
    refine own_go (fun _ k => XS.iconst X5.here hx rfl (hb hby at_126) k) ?_
    show own_Fin _ _ _ _ _ _ _ (T5.setTop (mkF m 127 #[.val (.long q0), .second, .val (.long q1), .second, .val (.int p2), .val (.int p3), .val (.long (own_f1 p2)), .second, .val (.long z3), .second, .val (.long (own_f1 p3)), .second, .unset, .unset, .unset] [(.int (0 : Int32))]))
    have kj := hk7 T5 _ (own_mono X5 (by decide) (by decide)) N5 e5
    simpa only [if_pos hc6] using kj
  · refine own_go (fun _ k => XS.ifNo X5.here hx rfl (hb hby at_40) rfl ((if0 _ _).trans (feq hc6).1) k) ?_
    show own_Fin _ _ _ _ _ _ _ (T5.setTop (mkF m 43 #[.val (.long q0), .second, .val (.long q1), .second, .val (.int p2), .val (.int p3), .val (.long (own_f1 p2)), .second, .val (.long z3), .second, .val (.long (own_f1 p3)), .second, .unset, .unset, .unset] []))
    refine own_go (fun _ k => XS.lload X5.here hx rfl (hb hby at_43) rfl k) ?_
    show own_Fin _ _ _ _ _ _ _ (T5.setTop (mkF m 45 #[.val (.long q0), .second, .val (.long q1), .second, .val (.int p2), .val (.int p3), .val (.long (own_f1 p2)), .second, .val (.long z3), .second, .val (.long (own_f1 p3)), .second, .unset, .unset, .unset] [(.long z3)]))
    refine own_go (fun _ k => XS.iload X5.here hx rfl (hb hby at_45) rfl k) ?_
    show own_Fin _ _ _ _ _ _ _ (T5.setTop (mkF m 47 #[.val (.long q0), .second, .val (.long q1), .second, .val (.int p2), .val (.int p3), .val (.long (own_f1 p2)), .second, .val (.long z3), .second, .val (.long (own_f1 p3)), .second, .unset, .unset, .unset] [(.int p3), (.long z3)]))
    refine own_go (fun _ k => XS.iconst X5.here hx rfl (hb hby at_47) k) ?_
    show own_Fin _ _ _ _ _ _ _ (T5.setTop (mkF m 48 #[.val (.long q0), .second, .val (.long q1), .second, .val (.int p2), .val (.int p3), .val (.long (own_f1 p2)), .second, .val (.long z3), .second, .val (.long (own_f1 p3)), .second, .unset, .unset, .unset] [(.int (1 : Int32)), (.int p3), (.long z3)]))
    obtain ⟨_, _, ⟨T8, L8, k8, n8⟩, -, X8, ⟨Lc8, hQ8, l8, y8, z8⟩, st8⟩ := Jvm.LawKit.callS X5 hx (y := (⟨"com/example/plain_tariff/plaintariff/ByteWordsDigitsPinLaw", "ok", "(JII)Z"⟩ : MethodName)) hown (mvT hZ (hw _ (List.mem_of_getElem? (i := 13) rfl))) (mvT hZ (hw _ (List.mem_of_getElem? (i := 14) rfl))) (mvT hZ (hw _ (List.mem_of_getElem? (i := 2) rfl))) (mvT hZ (hw _ (List.mem_of_getElem? (i := 15) rfl))) (by decide) (backOf (W := 0) (rm4 l Z a0 hw [] z3 p3 (1 : Int32) h0 n0 Z0) hZ (hw _ (List.mem_of_getElem? (i := 15) rfl)) (hw _ (List.mem_of_getElem? (i := 2) rfl)) (by decide) (by decide)) (g := (mkF m 48 #[.val (.long q0), .second, .val (.long q1), .second, .val (.int p2), .val (.int p3), .val (.long (own_f1 p2)), .second, .val (.long z3), .second, .val (.long (own_f1 p3)), .second, .unset, .unset, .unset] [(.int (1 : Int32)), (.int p3), (.long z3)])) rfl (by rw [hml]; rfl) (argsL := [(.long z3), (.int p3), (.int (1 : Int32))]) (rest := []) (lenOf own_pd216 rfl) rfl (by show 2 * 0 + _ ≤ _; exact Nat.le_of_eq rfl) (hb hby at_48) (fun _ _ => ⟨rfl, e5, (by decide : 0 + 0 ≤ _), (by decide : 0 + 0 ≤ _)⟩)
    dsimp only [Pt.U, Pt.locs, Pt.cells, Pt.slots] at X8 l8 y8 z8 st8 hQ8
    replace y8 : 0 = k8 := y8.symm
    replace z8 : 0 = n8 := z8.symm
    subst y8 z8
    obtain ⟨rfl, N8q, e8⟩ := hQ8
    have N8 : Fr n0 L8 := by rw [l8]; exact Fr.app N5 N8q
    refine own_go (fun tg k => st8 tg k) ?_
    show own_Fin _ _ _ _ _ _ _ (T8.setTop (mkF m 51 #[.val (.long q0), .second, .val (.long q1), .second, .val (.int p2), .val (.int p3), .val (.long (own_f1 p2)), .second, .val (.long z3), .second, .val (.long (own_f1 p3)), .second, .unset, .unset, .unset] [(.int (own_f4 z3 p3 (1 : Int32)))]))
    by_cases hc9 : (own_f4 z3 p3 (1 : Int32)) = (0 : Int32)
    · refine own_go (fun _ k => XS.ifYes X8.here hx rfl (pc0 := 51) (pc' := 126) rfl (hb hby at_51) rfl ((if0 _ _).trans (teq hc9).1) (by decide) (by decide) k) ?_
      show own_Fin _ _ _ _ _ _ _ (T8.setTop (mkF m 126 #[.val (.long q0), .second, .val (.long q1), .second, .val (.int p2), .val (.int p3), .val (.long (own_f1 p2)), .second, .val (.long z3), .second, .val (.long (own_f1 p3)), .second, .unset, .unset, .unset] []))
      refine own_go (fun _ k => XS.iconst X8.here hx rfl (hb hby at_126) k) ?_
      show own_Fin _ _ _ _ _ _ _ (T8.setTop (mkF m 127 #[.val (.long q0), .second, .val (.long q1), .second, .val (.int p2), .val (.int p3), .val (.long (own_f1 p2)), .second, .val (.long z3), .second, .val (.long (own_f1 p3)), .second, .unset, .unset, .unset] [(.int (0 : Int32))]))
      have kj := hk7 T8 _ (own_mono X8 (by decide) (by decide)) N8 e8
      simpa only [if_neg hc6, if_pos hc9] using kj
    · refine own_go (fun _ k => XS.ifNo X8.here hx rfl (hb hby at_51) rfl ((if0 _ _).trans (feq hc9).1) k) ?_
      show own_Fin _ _ _ _ _ _ _ (T8.setTop (mkF m 54 #[.val (.long q0), .second, .val (.long q1), .second, .val (.int p2), .val (.int p3), .val (.long (own_f1 p2)), .second, .val (.long z3), .second, .val (.long (own_f1 p3)), .second, .unset, .unset, .unset] []))
      refine own_go (fun _ k => XS.lload X8.here hx rfl (hb hby at_54) rfl k) ?_
      show own_Fin _ _ _ _ _ _ _ (T8.setTop (mkF m 56 #[.val (.long q0), .second, .val (.long q1), .second, .val (.int p2), .val (.int p3), .val (.long (own_f1 p2)), .second, .val (.long z3), .second, .val (.long (own_f1 p3)), .second, .unset, .unset, .unset] [(.long z3)]))
      refine own_go (fun _ k => XS.iload X8.here hx rfl (hb hby at_56) rfl k) ?_
      show own_Fin _ _ _ _ _ _ _ (T8.setTop (mkF m 58 #[.val (.long q0), .second, .val (.long q1), .second, .val (.int p2), .val (.int p3), .val (.long (own_f1 p2)), .second, .val (.long z3), .second, .val (.long (own_f1 p3)), .second, .unset, .unset, .unset] [(.int p3), (.long z3)]))
      refine own_go (fun _ k => XS.iconst X8.here hx rfl (hb hby at_58) k) ?_
      show own_Fin _ _ _ _ _ _ _ (T8.setTop (mkF m 59 #[.val (.long q0), .second, .val (.long q1), .second, .val (.int p2), .val (.int p3), .val (.long (own_f1 p2)), .second, .val (.long z3), .second, .val (.long (own_f1 p3)), .second, .unset, .unset, .unset] [(.int (2 : Int32)), (.int p3), (.long z3)]))
      obtain ⟨_, _, ⟨T10, L10, k10, n10⟩, -, X10, ⟨Lc10, hQ10, l10, y10, z10⟩, st10⟩ := Jvm.LawKit.callS X8 hx (y := (⟨"com/example/plain_tariff/plaintariff/ByteWordsDigitsPinLaw", "ok", "(JII)Z"⟩ : MethodName)) hown (mvT hZ (hw _ (List.mem_of_getElem? (i := 13) rfl))) (mvT hZ (hw _ (List.mem_of_getElem? (i := 14) rfl))) (mvT hZ (hw _ (List.mem_of_getElem? (i := 2) rfl))) (mvT hZ (hw _ (List.mem_of_getElem? (i := 15) rfl))) (by decide) (backOf (W := 0) (rm4 l Z a0 hw [] z3 p3 (2 : Int32) h0 n0 Z0) hZ (hw _ (List.mem_of_getElem? (i := 15) rfl)) (hw _ (List.mem_of_getElem? (i := 2) rfl)) (by decide) (by decide)) (g := (mkF m 59 #[.val (.long q0), .second, .val (.long q1), .second, .val (.int p2), .val (.int p3), .val (.long (own_f1 p2)), .second, .val (.long z3), .second, .val (.long (own_f1 p3)), .second, .unset, .unset, .unset] [(.int (2 : Int32)), (.int p3), (.long z3)])) rfl (by rw [hml]; rfl) (argsL := [(.long z3), (.int p3), (.int (2 : Int32))]) (rest := []) (lenOf own_pd216 rfl) rfl (by show 2 * 0 + _ ≤ _; exact Nat.le_of_eq rfl) (hb hby at_59) (fun _ _ => ⟨rfl, e8, (by decide : 0 + 0 ≤ _), (by decide : 0 + 0 ≤ _)⟩)
      dsimp only [Pt.U, Pt.locs, Pt.cells, Pt.slots] at X10 l10 y10 z10 st10 hQ10
      replace y10 : 0 = k10 := y10.symm
      replace z10 : 0 = n10 := z10.symm
      subst y10 z10
      obtain ⟨rfl, N10q, e10⟩ := hQ10
      have N10 : Fr n0 L10 := by rw [l10]; exact Fr.app N8 N10q
      refine own_go (fun tg k => st10 tg k) ?_
      show own_Fin _ _ _ _ _ _ _ (T10.setTop (mkF m 62 #[.val (.long q0), .second, .val (.long q1), .second, .val (.int p2), .val (.int p3), .val (.long (own_f1 p2)), .second, .val (.long z3), .second, .val (.long (own_f1 p3)), .second, .unset, .unset, .unset] [(.int (own_f4 z3 p3 (2 : Int32)))]))
      by_cases hc11 : (own_f4 z3 p3 (2 : Int32)) = (0 : Int32)
      · refine own_go (fun _ k => XS.ifYes X10.here hx rfl (pc0 := 62) (pc' := 126) rfl (hb hby at_62) rfl ((if0 _ _).trans (teq hc11).1) (by decide) (by decide) k) ?_
        show own_Fin _ _ _ _ _ _ _ (T10.setTop (mkF m 126 #[.val (.long q0), .second, .val (.long q1), .second, .val (.int p2), .val (.int p3), .val (.long (own_f1 p2)), .second, .val (.long z3), .second, .val (.long (own_f1 p3)), .second, .unset, .unset, .unset] []))
        refine own_go (fun _ k => XS.iconst X10.here hx rfl (hb hby at_126) k) ?_
        show own_Fin _ _ _ _ _ _ _ (T10.setTop (mkF m 127 #[.val (.long q0), .second, .val (.long q1), .second, .val (.int p2), .val (.int p3), .val (.long (own_f1 p2)), .second, .val (.long z3), .second, .val (.long (own_f1 p3)), .second, .unset, .unset, .unset] [(.int (0 : Int32))]))
        have kj := hk7 T10 _ (own_mono X10 (by decide) (by decide)) N10 e10
        simpa only [if_neg hc6, if_neg hc9, if_pos hc11] using kj
      · refine own_go (fun _ k => XS.ifNo X10.here hx rfl (hb hby at_62) rfl ((if0 _ _).trans (feq hc11).1) k) ?_
        show own_Fin _ _ _ _ _ _ _ (T10.setTop (mkF m 65 #[.val (.long q0), .second, .val (.long q1), .second, .val (.int p2), .val (.int p3), .val (.long (own_f1 p2)), .second, .val (.long z3), .second, .val (.long (own_f1 p3)), .second, .unset, .unset, .unset] []))
        refine own_go (fun _ k => XS.lload X10.here hx rfl (hb hby at_65) rfl k) ?_
        show own_Fin _ _ _ _ _ _ _ (T10.setTop (mkF m 67 #[.val (.long q0), .second, .val (.long q1), .second, .val (.int p2), .val (.int p3), .val (.long (own_f1 p2)), .second, .val (.long z3), .second, .val (.long (own_f1 p3)), .second, .unset, .unset, .unset] [(.long z3)]))
        refine own_go (fun _ k => XS.iload X10.here hx rfl (hb hby at_67) rfl k) ?_
        show own_Fin _ _ _ _ _ _ _ (T10.setTop (mkF m 69 #[.val (.long q0), .second, .val (.long q1), .second, .val (.int p2), .val (.int p3), .val (.long (own_f1 p2)), .second, .val (.long z3), .second, .val (.long (own_f1 p3)), .second, .unset, .unset, .unset] [(.int p3), (.long z3)]))
        refine own_go (fun _ k => XS.iconst X10.here hx rfl (hb hby at_69) k) ?_
        show own_Fin _ _ _ _ _ _ _ (T10.setTop (mkF m 70 #[.val (.long q0), .second, .val (.long q1), .second, .val (.int p2), .val (.int p3), .val (.long (own_f1 p2)), .second, .val (.long z3), .second, .val (.long (own_f1 p3)), .second, .unset, .unset, .unset] [(.int (3 : Int32)), (.int p3), (.long z3)]))
        obtain ⟨_, _, ⟨T12, L12, k12, n12⟩, -, X12, ⟨Lc12, hQ12, l12, y12, z12⟩, st12⟩ := Jvm.LawKit.callS X10 hx (y := (⟨"com/example/plain_tariff/plaintariff/ByteWordsDigitsPinLaw", "ok", "(JII)Z"⟩ : MethodName)) hown (mvT hZ (hw _ (List.mem_of_getElem? (i := 13) rfl))) (mvT hZ (hw _ (List.mem_of_getElem? (i := 14) rfl))) (mvT hZ (hw _ (List.mem_of_getElem? (i := 2) rfl))) (mvT hZ (hw _ (List.mem_of_getElem? (i := 15) rfl))) (by decide) (backOf (W := 0) (rm4 l Z a0 hw [] z3 p3 (3 : Int32) h0 n0 Z0) hZ (hw _ (List.mem_of_getElem? (i := 15) rfl)) (hw _ (List.mem_of_getElem? (i := 2) rfl)) (by decide) (by decide)) (g := (mkF m 70 #[.val (.long q0), .second, .val (.long q1), .second, .val (.int p2), .val (.int p3), .val (.long (own_f1 p2)), .second, .val (.long z3), .second, .val (.long (own_f1 p3)), .second, .unset, .unset, .unset] [(.int (3 : Int32)), (.int p3), (.long z3)])) rfl (by rw [hml]; rfl) (argsL := [(.long z3), (.int p3), (.int (3 : Int32))]) (rest := []) (lenOf own_pd216 rfl) rfl (by show 2 * 0 + _ ≤ _; exact Nat.le_of_eq rfl) (hb hby at_70) (fun _ _ => ⟨rfl, e10, (by decide : 0 + 0 ≤ _), (by decide : 0 + 0 ≤ _)⟩)
        dsimp only [Pt.U, Pt.locs, Pt.cells, Pt.slots] at X12 l12 y12 z12 st12 hQ12
        replace y12 : 0 = k12 := y12.symm
        replace z12 : 0 = n12 := z12.symm
        subst y12 z12
        obtain ⟨rfl, N12q, e12⟩ := hQ12
        have N12 : Fr n0 L12 := by rw [l12]; exact Fr.app N10 N12q
        refine own_go (fun tg k => st12 tg k) ?_
        show own_Fin _ _ _ _ _ _ _ (T12.setTop (mkF m 73 #[.val (.long q0), .second, .val (.long q1), .second, .val (.int p2), .val (.int p3), .val (.long (own_f1 p2)), .second, .val (.long z3), .second, .val (.long (own_f1 p3)), .second, .unset, .unset, .unset] [(.int (own_f4 z3 p3 (3 : Int32)))]))
        by_cases hc13 : (own_f4 z3 p3 (3 : Int32)) = (0 : Int32)
        · refine own_go (fun _ k => XS.ifYes X12.here hx rfl (pc0 := 73) (pc' := 126) rfl (hb hby at_73) rfl ((if0 _ _).trans (teq hc13).1) (by decide) (by decide) k) ?_
          show own_Fin _ _ _ _ _ _ _ (T12.setTop (mkF m 126 #[.val (.long q0), .second, .val (.long q1), .second, .val (.int p2), .val (.int p3), .val (.long (own_f1 p2)), .second, .val (.long z3), .second, .val (.long (own_f1 p3)), .second, .unset, .unset, .unset] []))
          refine own_go (fun _ k => XS.iconst X12.here hx rfl (hb hby at_126) k) ?_
          show own_Fin _ _ _ _ _ _ _ (T12.setTop (mkF m 127 #[.val (.long q0), .second, .val (.long q1), .second, .val (.int p2), .val (.int p3), .val (.long (own_f1 p2)), .second, .val (.long z3), .second, .val (.long (own_f1 p3)), .second, .unset, .unset, .unset] [(.int (0 : Int32))]))
          have kj := hk7 T12 _ (own_mono X12 (by decide) (by decide)) N12 e12
          simpa only [if_neg hc6, if_neg hc9, if_neg hc11, if_pos hc13] using kj
        · refine own_go (fun _ k => XS.ifNo X12.here hx rfl (hb hby at_73) rfl ((if0 _ _).trans (feq hc13).1) k) ?_
          show own_Fin _ _ _ _ _ _ _ (T12.setTop (mkF m 76 #[.val (.long q0), .second, .val (.long q1), .second, .val (.int p2), .val (.int p3), .val (.long (own_f1 p2)), .second, .val (.long z3), .second, .val (.long (own_f1 p3)), .second, .unset, .unset, .unset] []))
          refine own_go (fun _ k => XS.lload X12.here hx rfl (hb hby at_76) rfl k) ?_
          show own_Fin _ _ _ _ _ _ _ (T12.setTop (mkF m 78 #[.val (.long q0), .second, .val (.long q1), .second, .val (.int p2), .val (.int p3), .val (.long (own_f1 p2)), .second, .val (.long z3), .second, .val (.long (own_f1 p3)), .second, .unset, .unset, .unset] [(.long z3)]))
          refine own_go (fun _ k => XS.iload X12.here hx rfl (hb hby at_78) rfl k) ?_
          show own_Fin _ _ _ _ _ _ _ (T12.setTop (mkF m 80 #[.val (.long q0), .second, .val (.long q1), .second, .val (.int p2), .val (.int p3), .val (.long (own_f1 p2)), .second, .val (.long z3), .second, .val (.long (own_f1 p3)), .second, .unset, .unset, .unset] [(.int p3), (.long z3)]))
          refine own_go (fun _ k => XS.iconst X12.here hx rfl (hb hby at_80) k) ?_
          show own_Fin _ _ _ _ _ _ _ (T12.setTop (mkF m 81 #[.val (.long q0), .second, .val (.long q1), .second, .val (.int p2), .val (.int p3), .val (.long (own_f1 p2)), .second, .val (.long z3), .second, .val (.long (own_f1 p3)), .second, .unset, .unset, .unset] [(.int (4 : Int32)), (.int p3), (.long z3)]))
          obtain ⟨_, _, ⟨T14, L14, k14, n14⟩, -, X14, ⟨Lc14, hQ14, l14, y14, z14⟩, st14⟩ := Jvm.LawKit.callS X12 hx (y := (⟨"com/example/plain_tariff/plaintariff/ByteWordsDigitsPinLaw", "ok", "(JII)Z"⟩ : MethodName)) hown (mvT hZ (hw _ (List.mem_of_getElem? (i := 13) rfl))) (mvT hZ (hw _ (List.mem_of_getElem? (i := 14) rfl))) (mvT hZ (hw _ (List.mem_of_getElem? (i := 2) rfl))) (mvT hZ (hw _ (List.mem_of_getElem? (i := 15) rfl))) (by decide) (backOf (W := 0) (rm4 l Z a0 hw [] z3 p3 (4 : Int32) h0 n0 Z0) hZ (hw _ (List.mem_of_getElem? (i := 15) rfl)) (hw _ (List.mem_of_getElem? (i := 2) rfl)) (by decide) (by decide)) (g := (mkF m 81 #[.val (.long q0), .second, .val (.long q1), .second, .val (.int p2), .val (.int p3), .val (.long (own_f1 p2)), .second, .val (.long z3), .second, .val (.long (own_f1 p3)), .second, .unset, .unset, .unset] [(.int (4 : Int32)), (.int p3), (.long z3)])) rfl (by rw [hml]; rfl) (argsL := [(.long z3), (.int p3), (.int (4 : Int32))]) (rest := []) (lenOf own_pd216 rfl) rfl (by show 2 * 0 + _ ≤ _; exact Nat.le_of_eq rfl) (hb hby at_81) (fun _ _ => ⟨rfl, e12, (by decide : 0 + 0 ≤ _), (by decide : 0 + 0 ≤ _)⟩)
          dsimp only [Pt.U, Pt.locs, Pt.cells, Pt.slots] at X14 l14 y14 z14 st14 hQ14
          replace y14 : 0 = k14 := y14.symm
          replace z14 : 0 = n14 := z14.symm
          subst y14 z14
          obtain ⟨rfl, N14q, e14⟩ := hQ14
          have N14 : Fr n0 L14 := by rw [l14]; exact Fr.app N12 N14q
          refine own_go (fun tg k => st14 tg k) ?_
          show own_Fin _ _ _ _ _ _ _ (T14.setTop (mkF m 84 #[.val (.long q0), .second, .val (.long q1), .second, .val (.int p2), .val (.int p3), .val (.long (own_f1 p2)), .second, .val (.long z3), .second, .val (.long (own_f1 p3)), .second, .unset, .unset, .unset] [(.int (own_f4 z3 p3 (4 : Int32)))]))
          by_cases hc15 : (own_f4 z3 p3 (4 : Int32)) = (0 : Int32)
          · refine own_go (fun _ k => XS.ifYes X14.here hx rfl (pc0 := 84) (pc' := 126) rfl (hb hby at_84) rfl ((if0 _ _).trans (teq hc15).1) (by decide) (by decide) k) ?_
            show own_Fin _ _ _ _ _ _ _ (T14.setTop (mkF m 126 #[.val (.long q0), .second, .val (.long q1), .second, .val (.int p2), .val (.int p3), .val (.long (own_f1 p2)), .second, .val (.long z3), .second, .val (.long (own_f1 p3)), .second, .unset, .unset, .unset] []))
            refine own_go (fun _ k => XS.iconst X14.here hx rfl (hb hby at_126) k) ?_
            show own_Fin _ _ _ _ _ _ _ (T14.setTop (mkF m 127 #[.val (.long q0), .second, .val (.long q1), .second, .val (.int p2), .val (.int p3), .val (.long (own_f1 p2)), .second, .val (.long z3), .second, .val (.long (own_f1 p3)), .second, .unset, .unset, .unset] [(.int (0 : Int32))]))
            have kj := hk7 T14 _ (own_mono X14 (by decide) (by decide)) N14 e14
            simpa only [if_neg hc6, if_neg hc9, if_neg hc11, if_neg hc13, if_pos hc15] using kj
          · refine own_go (fun _ k => XS.ifNo X14.here hx rfl (hb hby at_84) rfl ((if0 _ _).trans (feq hc15).1) k) ?_
            show own_Fin _ _ _ _ _ _ _ (T14.setTop (mkF m 87 #[.val (.long q0), .second, .val (.long q1), .second, .val (.int p2), .val (.int p3), .val (.long (own_f1 p2)), .second, .val (.long z3), .second, .val (.long (own_f1 p3)), .second, .unset, .unset, .unset] []))
            refine own_go (fun _ k => XS.lload X14.here hx rfl (hb hby at_87) rfl k) ?_
            show own_Fin _ _ _ _ _ _ _ (T14.setTop (mkF m 89 #[.val (.long q0), .second, .val (.long q1), .second, .val (.int p2), .val (.int p3), .val (.long (own_f1 p2)), .second, .val (.long z3), .second, .val (.long (own_f1 p3)), .second, .unset, .unset, .unset] [(.long z3)]))
            refine own_go (fun _ k => XS.iload X14.here hx rfl (hb hby at_89) rfl k) ?_
            show own_Fin _ _ _ _ _ _ _ (T14.setTop (mkF m 91 #[.val (.long q0), .second, .val (.long q1), .second, .val (.int p2), .val (.int p3), .val (.long (own_f1 p2)), .second, .val (.long z3), .second, .val (.long (own_f1 p3)), .second, .unset, .unset, .unset] [(.int p3), (.long z3)]))
            refine own_go (fun _ k => XS.iconst X14.here hx rfl (hb hby at_91) k) ?_
            show own_Fin _ _ _ _ _ _ _ (T14.setTop (mkF m 92 #[.val (.long q0), .second, .val (.long q1), .second, .val (.int p2), .val (.int p3), .val (.long (own_f1 p2)), .second, .val (.long z3), .second, .val (.long (own_f1 p3)), .second, .unset, .unset, .unset] [(.int (5 : Int32)), (.int p3), (.long z3)]))
            obtain ⟨_, _, ⟨T16, L16, k16, n16⟩, -, X16, ⟨Lc16, hQ16, l16, y16, z16⟩, st16⟩ := Jvm.LawKit.callS X14 hx (y := (⟨"com/example/plain_tariff/plaintariff/ByteWordsDigitsPinLaw", "ok", "(JII)Z"⟩ : MethodName)) hown (mvT hZ (hw _ (List.mem_of_getElem? (i := 13) rfl))) (mvT hZ (hw _ (List.mem_of_getElem? (i := 14) rfl))) (mvT hZ (hw _ (List.mem_of_getElem? (i := 2) rfl))) (mvT hZ (hw _ (List.mem_of_getElem? (i := 15) rfl))) (by decide) (backOf (W := 0) (rm4 l Z a0 hw [] z3 p3 (5 : Int32) h0 n0 Z0) hZ (hw _ (List.mem_of_getElem? (i := 15) rfl)) (hw _ (List.mem_of_getElem? (i := 2) rfl)) (by decide) (by decide)) (g := (mkF m 92 #[.val (.long q0), .second, .val (.long q1), .second, .val (.int p2), .val (.int p3), .val (.long (own_f1 p2)), .second, .val (.long z3), .second, .val (.long (own_f1 p3)), .second, .unset, .unset, .unset] [(.int (5 : Int32)), (.int p3), (.long z3)])) rfl (by rw [hml]; rfl) (argsL := [(.long z3), (.int p3), (.int (5 : Int32))]) (rest := []) (lenOf own_pd216 rfl) rfl (by show 2 * 0 + _ ≤ _; exact Nat.le_of_eq rfl) (hb hby at_92) (fun _ _ => ⟨rfl, e14, (by decide : 0 + 0 ≤ _), (by decide : 0 + 0 ≤ _)⟩)
            dsimp only [Pt.U, Pt.locs, Pt.cells, Pt.slots] at X16 l16 y16 z16 st16 hQ16
            replace y16 : 0 = k16 := y16.symm
            replace z16 : 0 = n16 := z16.symm
            subst y16 z16
            obtain ⟨rfl, N16q, e16⟩ := hQ16
            have N16 : Fr n0 L16 := by rw [l16]; exact Fr.app N14 N16q
            refine own_go (fun tg k => st16 tg k) ?_
            show own_Fin _ _ _ _ _ _ _ (T16.setTop (mkF m 95 #[.val (.long q0), .second, .val (.long q1), .second, .val (.int p2), .val (.int p3), .val (.long (own_f1 p2)), .second, .val (.long z3), .second, .val (.long (own_f1 p3)), .second, .unset, .unset, .unset] [(.int (own_f4 z3 p3 (5 : Int32)))]))
            by_cases hc17 : (own_f4 z3 p3 (5 : Int32)) = (0 : Int32)
            · refine own_go (fun _ k => XS.ifYes X16.here hx rfl (pc0 := 95) (pc' := 126) rfl (hb hby at_95) rfl ((if0 _ _).trans (teq hc17).1) (by decide) (by decide) k) ?_
              show own_Fin _ _ _ _ _ _ _ (T16.setTop (mkF m 126 #[.val (.long q0), .second, .val (.long q1), .second, .val (.int p2), .val (.int p3), .val (.long (own_f1 p2)), .second, .val (.long z3), .second, .val (.long (own_f1 p3)), .second, .unset, .unset, .unset] []))
              refine own_go (fun _ k => XS.iconst X16.here hx rfl (hb hby at_126) k) ?_
              show own_Fin _ _ _ _ _ _ _ (T16.setTop (mkF m 127 #[.val (.long q0), .second, .val (.long q1), .second, .val (.int p2), .val (.int p3), .val (.long (own_f1 p2)), .second, .val (.long z3), .second, .val (.long (own_f1 p3)), .second, .unset, .unset, .unset] [(.int (0 : Int32))]))
              have kj := hk7 T16 _ (own_mono X16 (by decide) (by decide)) N16 e16
              simpa only [if_neg hc6, if_neg hc9, if_neg hc11, if_neg hc13, if_neg hc15, if_pos hc17] using kj
            · refine own_go (fun _ k => XS.ifNo X16.here hx rfl (hb hby at_95) rfl ((if0 _ _).trans (feq hc17).1) k) ?_
              show own_Fin _ _ _ _ _ _ _ (T16.setTop (mkF m 98 #[.val (.long q0), .second, .val (.long q1), .second, .val (.int p2), .val (.int p3), .val (.long (own_f1 p2)), .second, .val (.long z3), .second, .val (.long (own_f1 p3)), .second, .unset, .unset, .unset] []))
              refine own_go (fun _ k => XS.lload X16.here hx rfl (hb hby at_98) rfl k) ?_
              show own_Fin _ _ _ _ _ _ _ (T16.setTop (mkF m 100 #[.val (.long q0), .second, .val (.long q1), .second, .val (.int p2), .val (.int p3), .val (.long (own_f1 p2)), .second, .val (.long z3), .second, .val (.long (own_f1 p3)), .second, .unset, .unset, .unset] [(.long z3)]))
              refine own_go (fun _ k => XS.iload X16.here hx rfl (hb hby at_100) rfl k) ?_
              show own_Fin _ _ _ _ _ _ _ (T16.setTop (mkF m 102 #[.val (.long q0), .second, .val (.long q1), .second, .val (.int p2), .val (.int p3), .val (.long (own_f1 p2)), .second, .val (.long z3), .second, .val (.long (own_f1 p3)), .second, .unset, .unset, .unset] [(.int p3), (.long z3)]))
              refine own_go (fun _ k => XS.bipush X16.here hx rfl (hb hby at_102) k) ?_
              show own_Fin _ _ _ _ _ _ _ (T16.setTop (mkF m 104 #[.val (.long q0), .second, .val (.long q1), .second, .val (.int p2), .val (.int p3), .val (.long (own_f1 p2)), .second, .val (.long z3), .second, .val (.long (own_f1 p3)), .second, .unset, .unset, .unset] [(.int (6 : Int32)), (.int p3), (.long z3)]))
              obtain ⟨_, _, ⟨T18, L18, k18, n18⟩, -, X18, ⟨Lc18, hQ18, l18, y18, z18⟩, st18⟩ := Jvm.LawKit.callS X16 hx (y := (⟨"com/example/plain_tariff/plaintariff/ByteWordsDigitsPinLaw", "ok", "(JII)Z"⟩ : MethodName)) hown (mvT hZ (hw _ (List.mem_of_getElem? (i := 13) rfl))) (mvT hZ (hw _ (List.mem_of_getElem? (i := 14) rfl))) (mvT hZ (hw _ (List.mem_of_getElem? (i := 2) rfl))) (mvT hZ (hw _ (List.mem_of_getElem? (i := 15) rfl))) (by decide) (backOf (W := 0) (rm4 l Z a0 hw [] z3 p3 (6 : Int32) h0 n0 Z0) hZ (hw _ (List.mem_of_getElem? (i := 15) rfl)) (hw _ (List.mem_of_getElem? (i := 2) rfl)) (by decide) (by decide)) (g := (mkF m 104 #[.val (.long q0), .second, .val (.long q1), .second, .val (.int p2), .val (.int p3), .val (.long (own_f1 p2)), .second, .val (.long z3), .second, .val (.long (own_f1 p3)), .second, .unset, .unset, .unset] [(.int (6 : Int32)), (.int p3), (.long z3)])) rfl (by rw [hml]; rfl) (argsL := [(.long z3), (.int p3), (.int (6 : Int32))]) (rest := []) (lenOf own_pd216 rfl) rfl (by show 2 * 0 + _ ≤ _; exact Nat.le_of_eq rfl) (hb hby at_104) (fun _ _ => ⟨rfl, e16, (by decide : 0 + 0 ≤ _), (by decide : 0 + 0 ≤ _)⟩)
              dsimp only [Pt.U, Pt.locs, Pt.cells, Pt.slots] at X18 l18 y18 z18 st18 hQ18
              replace y18 : 0 = k18 := y18.symm
              replace z18 : 0 = n18 := z18.symm
              subst y18 z18
              obtain ⟨rfl, N18q, e18⟩ := hQ18
              have N18 : Fr n0 L18 := by rw [l18]; exact Fr.app N16 N18q
              refine own_go (fun tg k => st18 tg k) ?_
              show own_Fin _ _ _ _ _ _ _ (T18.setTop (mkF m 107 #[.val (.long q0), .second, .val (.long q1), .second, .val (.int p2), .val (.int p3), .val (.long (own_f1 p2)), .second, .val (.long z3), .second, .val (.long (own_f1 p3)), .second, .unset, .unset, .unset] [(.int (own_f4 z3 p3 (6 : Int32)))]))
              by_cases hc19 : (own_f4 z3 p3 (6 : Int32)) = (0 : Int32)
              · refine own_go (fun _ k => XS.ifYes X18.here hx rfl (pc0 := 107) (pc' := 126) rfl (hb hby at_107) rfl ((if0 _ _).trans (teq hc19).1) (by decide) (by decide) k) ?_
                show own_Fin _ _ _ _ _ _ _ (T18.setTop (mkF m 126 #[.val (.long q0), .second, .val (.long q1), .second, .val (.int p2), .val (.int p3), .val (.long (own_f1 p2)), .second, .val (.long z3), .second, .val (.long (own_f1 p3)), .second, .unset, .unset, .unset] []))
                refine own_go (fun _ k => XS.iconst X18.here hx rfl (hb hby at_126) k) ?_
                show own_Fin _ _ _ _ _ _ _ (T18.setTop (mkF m 127 #[.val (.long q0), .second, .val (.long q1), .second, .val (.int p2), .val (.int p3), .val (.long (own_f1 p2)), .second, .val (.long z3), .second, .val (.long (own_f1 p3)), .second, .unset, .unset, .unset] [(.int (0 : Int32))]))
                have kj := hk7 T18 _ (own_mono X18 (by decide) (by decide)) N18 e18
                simpa only [if_neg hc6, if_neg hc9, if_neg hc11, if_neg hc13, if_neg hc15, if_neg hc17, if_pos hc19] using kj
              · refine own_go (fun _ k => XS.ifNo X18.here hx rfl (hb hby at_107) rfl ((if0 _ _).trans (feq hc19).1) k) ?_
                show own_Fin _ _ _ _ _ _ _ (T18.setTop (mkF m 110 #[.val (.long q0), .second, .val (.long q1), .second, .val (.int p2), .val (.int p3), .val (.long (own_f1 p2)), .second, .val (.long z3), .second, .val (.long (own_f1 p3)), .second, .unset, .unset, .unset] []))
                refine own_go (fun _ k => XS.lload X18.here hx rfl (hb hby at_110) rfl k) ?_
                show own_Fin _ _ _ _ _ _ _ (T18.setTop (mkF m 112 #[.val (.long q0), .second, .val (.long q1), .second, .val (.int p2), .val (.int p3), .val (.long (own_f1 p2)), .second, .val (.long z3), .second, .val (.long (own_f1 p3)), .second, .unset, .unset, .unset] [(.long z3)]))
                refine own_go (fun _ k => XS.iload X18.here hx rfl (hb hby at_112) rfl k) ?_
                show own_Fin _ _ _ _ _ _ _ (T18.setTop (mkF m 114 #[.val (.long q0), .second, .val (.long q1), .second, .val (.int p2), .val (.int p3), .val (.long (own_f1 p2)), .second, .val (.long z3), .second, .val (.long (own_f1 p3)), .second, .unset, .unset, .unset] [(.int p3), (.long z3)]))
                refine own_go (fun _ k => XS.bipush X18.here hx rfl (hb hby at_114) k) ?_
                show own_Fin _ _ _ _ _ _ _ (T18.setTop (mkF m 116 #[.val (.long q0), .second, .val (.long q1), .second, .val (.int p2), .val (.int p3), .val (.long (own_f1 p2)), .second, .val (.long z3), .second, .val (.long (own_f1 p3)), .second, .unset, .unset, .unset] [(.int (7 : Int32)), (.int p3), (.long z3)]))
                obtain ⟨_, _, ⟨T20, L20, k20, n20⟩, -, X20, ⟨Lc20, hQ20, l20, y20, z20⟩, st20⟩ := Jvm.LawKit.callS X18 hx (y := (⟨"com/example/plain_tariff/plaintariff/ByteWordsDigitsPinLaw", "ok", "(JII)Z"⟩ : MethodName)) hown (mvT hZ (hw _ (List.mem_of_getElem? (i := 13) rfl))) (mvT hZ (hw _ (List.mem_of_getElem? (i := 14) rfl))) (mvT hZ (hw _ (List.mem_of_getElem? (i := 2) rfl))) (mvT hZ (hw _ (List.mem_of_getElem? (i := 15) rfl))) (by decide) (backOf (W := 0) (rm4 l Z a0 hw [] z3 p3 (7 : Int32) h0 n0 Z0) hZ (hw _ (List.mem_of_getElem? (i := 15) rfl)) (hw _ (List.mem_of_getElem? (i := 2) rfl)) (by decide) (by decide)) (g := (mkF m 116 #[.val (.long q0), .second, .val (.long q1), .second, .val (.int p2), .val (.int p3), .val (.long (own_f1 p2)), .second, .val (.long z3), .second, .val (.long (own_f1 p3)), .second, .unset, .unset, .unset] [(.int (7 : Int32)), (.int p3), (.long z3)])) rfl (by rw [hml]; rfl) (argsL := [(.long z3), (.int p3), (.int (7 : Int32))]) (rest := []) (lenOf own_pd216 rfl) rfl (by show 2 * 0 + _ ≤ _; exact Nat.le_of_eq rfl) (hb hby at_116) (fun _ _ => ⟨rfl, e18, (by decide : 0 + 0 ≤ _), (by decide : 0 + 0 ≤ _)⟩)
                dsimp only [Pt.U, Pt.locs, Pt.cells, Pt.slots] at X20 l20 y20 z20 st20 hQ20
                replace y20 : 0 = k20 := y20.symm
                replace z20 : 0 = n20 := z20.symm
                subst y20 z20
                obtain ⟨rfl, N20q, e20⟩ := hQ20
                have N20 : Fr n0 L20 := by rw [l20]; exact Fr.app N18 N20q
                refine own_go (fun tg k => st20 tg k) ?_
                show own_Fin _ _ _ _ _ _ _ (T20.setTop (mkF m 119 #[.val (.long q0), .second, .val (.long q1), .second, .val (.int p2), .val (.int p3), .val (.long (own_f1 p2)), .second, .val (.long z3), .second, .val (.long (own_f1 p3)), .second, .unset, .unset, .unset] [(.int (own_f4 z3 p3 (7 : Int32)))]))
                by_cases hc21 : (own_f4 z3 p3 (7 : Int32)) = (0 : Int32)
                · refine own_go (fun _ k => XS.ifYes X20.here hx rfl (pc0 := 119) (pc' := 126) rfl (hb hby at_119) rfl ((if0 _ _).trans (teq hc21).1) (by decide) (by decide) k) ?_
                  show own_Fin _ _ _ _ _ _ _ (T20.setTop (mkF m 126 #[.val (.long q0), .second, .val (.long q1), .second, .val (.int p2), .val (.int p3), .val (.long (own_f1 p2)), .second, .val (.long z3), .second, .val (.long (own_f1 p3)), .second, .unset, .unset, .unset] []))
                  refine own_go (fun _ k => XS.iconst X20.here hx rfl (hb hby at_126) k) ?_
                  show own_Fin _ _ _ _ _ _ _ (T20.setTop (mkF m 127 #[.val (.long q0), .second, .val (.long q1), .second, .val (.int p2), .val (.int p3), .val (.long (own_f1 p2)), .second, .val (.long z3), .second, .val (.long (own_f1 p3)), .second, .unset, .unset, .unset] [(.int (0 : Int32))]))
                  have kj := hk7 T20 _ (own_mono X20 (by decide) (by decide)) N20 e20
                  simpa only [if_neg hc6, if_neg hc9, if_neg hc11, if_neg hc13, if_neg hc15, if_neg hc17, if_neg hc19, if_pos hc21] using kj
                · refine own_go (fun _ k => XS.ifNo X20.here hx rfl (hb hby at_119) rfl ((if0 _ _).trans (feq hc21).1) k) ?_
                  show own_Fin _ _ _ _ _ _ _ (T20.setTop (mkF m 122 #[.val (.long q0), .second, .val (.long q1), .second, .val (.int p2), .val (.int p3), .val (.long (own_f1 p2)), .second, .val (.long z3), .second, .val (.long (own_f1 p3)), .second, .unset, .unset, .unset] []))
                  refine own_go (fun _ k => XS.iconst X20.here hx rfl (hb hby at_122) k) ?_
                  show own_Fin _ _ _ _ _ _ _ (T20.setTop (mkF m 123 #[.val (.long q0), .second, .val (.long q1), .second, .val (.int p2), .val (.int p3), .val (.long (own_f1 p2)), .second, .val (.long z3), .second, .val (.long (own_f1 p3)), .second, .unset, .unset, .unset] [(.int (1 : Int32))]))
                  refine own_go (fun _ k => XS.goto X20.here hx rfl (pc0 := 123) (pc' := 127) rfl (hb hby at_123) (by decide) (by decide) k) ?_
                  show own_Fin _ _ _ _ _ _ _ (T20.setTop (mkF m 127 #[.val (.long q0), .second, .val (.long q1), .second, .val (.int p2), .val (.int p3), .val (.long (own_f1 p2)), .second, .val (.long z3), .second, .val (.long (own_f1 p3)), .second, .unset, .unset, .unset] [(.int (1 : Int32))]))
                  have kj := hk7 T20 _ (own_mono X20 (by decide) (by decide)) N20 e20
                  simpa only [if_neg hc6, if_neg hc9, if_neg hc11, if_neg hc13, if_neg hc15, if_neg hc17, if_neg hc19, if_neg hc21] using kj
theorem own_lushr_bv (x : Int64) (y : Int32) (k : Nat) (hk : y.toBitVec.toNat % 64 = k) : (own_lushr x y).toBitVec = x.toBitVec >>> k := by
  show x.toBitVec >>> ((y &&& 0x3f).toInt64.toBitVec % 64) = _
  have h5 := (sm64 y k hk).2
  rw [BitVec.ushiftRight_eq', BitVec.toNat_umod, (sm64 y k hk).1, BitVec.toNat_ofNat]
  congr 1; show k % 2 ^ 64 % 64 = k; omega
theorem own_lshl_bv (x : Int64) (y : Int32) (k : Nat) (hk : y.toBitVec.toNat % 64 = k) : (own_lshl x y).toBitVec = x.toBitVec <<< k := by
  show x.toBitVec <<< ((y &&& 0x3f).toInt64.toBitVec.smod 64) = _
  rw [BitVec.shiftLeft_eq', (sm64 y k hk).1, smod64 k (sm64 y k hk).2]
theorem own_sh {y : Int32} {k : Nat} (h : y.toInt = k) (hk : k < 64) : y.toBitVec.toNat % 64 = k := by
  have e : y.toBitVec.toInt = k := h
  have := y.toBitVec.isLt
  rw [BitVec.toInt_eq_toNat_cond] at e
  split at e <;> omega
def own_bit (x : Int64) (k : Nat) : Bool := x.toBitVec.getLsbD k
theorem own_bit_and (x y : Int64) (k : Nat) : own_bit (x &&& y) k = (own_bit x k && own_bit y k) := BitVec.getLsbD_and ..
theorem own_bit_or (x y : Int64) (k : Nat) : own_bit (x ||| y) k = (own_bit x k || own_bit y k) := BitVec.getLsbD_or ..
theorem own_bit_xor (x y : Int64) (k : Nat) : own_bit (x ^^^ y) k = (own_bit x k ^^ own_bit y k) := BitVec.getLsbD_xor ..
theorem own_bit_shr (x : Int64) {y : Int32} {k : Nat} (h : y.toInt = k) (hk : k < 64) (i : Nat) : own_bit (own_lushr x y) i = own_bit x (k + i) := by
  simp only [own_bit, own_lushr_bv x y k (own_sh h hk), BitVec.getLsbD_ushiftRight]
theorem own_bit_shl (x : Int64) {y : Int32} {k : Nat} (h : y.toInt = k) (hk : k < 64) (i : Nat) : own_bit (own_lshl x y) i = (decide (i < 64) && !decide (i < k) && own_bit x (i - k)) := by
  simp only [own_bit, own_lshl_bv x y k (own_sh h hk), BitVec.getLsbD_shiftLeft]
theorem own_bit_hi (x : Int64) {k : Nat} (h : 64 ≤ k) : own_bit x k = false := BitVec.getLsbD_of_ge _ _ h
theorem own_bit_one (i : Nat) : own_bit 1 i = decide (i = 0) := by
  show (1#64).getLsbD i = _
  rw [BitVec.getLsbD_one]; cases i <;> rfl
theorem own_bit_m1 (i : Nat) : own_bit (-1) i = decide (i < 64) := by
  show (BitVec.allOnes 64).getLsbD i = _
  rw [BitVec.getLsbD_allOnes]
theorem own_and1 (x : Int64) : x &&& (1 : Int64) = if own_bit x 0 then (1 : Int64) else (0 : Int64) := by
  have h : (x &&& 1).toBitVec = x.toBitVec &&& 1#64 := rfl
  cases hb : own_bit x 0
  · rw [if_neg (by simp)]
    apply Int64.toBitVec_inj.mp; rw [h]
    apply BitVec.eq_of_getLsbD_eq; intro i hi
    rw [BitVec.getLsbD_and, BitVec.getLsbD_one]
    show _ = (0#64).getLsbD i
    cases i with
    | zero => simp only [own_bit] at hb; rw [hb]; rfl
    | succ n => simp
  · rw [if_pos rfl]
    apply Int64.toBitVec_inj.mp; rw [h]
    apply BitVec.eq_of_getLsbD_eq; intro i hi
    rw [BitVec.getLsbD_and, BitVec.getLsbD_one]
    show _ = (1#64).getLsbD i
    rw [BitVec.getLsbD_one]
    cases i with
    | zero => simp only [own_bit] at hb; rw [hb]; rfl
    | succ n => simp
theorem own_pick (x : Int64) {y : Int32} {k : Nat} (h : y.toInt = k) (hk : k < 64) : (own_lushr x y) &&& (1 : Int64) = if own_bit x k then (1 : Int64) else (0 : Int64) := by
  rw [own_and1, own_bit_shr x h hk]; rfl
theorem own_maskall : ∀ w i : Fin 64, own_bit ((own_lshl (1 : Int64) (Int32.ofNat w.1)) - (1 : Int64)) i.1 = decide (i.1 < w.1) := by decide +kernel
theorem own_i32n {y : Int32} {k : Nat} (h : y.toInt = k) : y = Int32.ofNat k := by
  have r := rng32 y
  apply Int32.toInt_inj.mp
  rw [Int32.toInt_ofNat_small (by omega), h]
theorem own_mask {w : Int32} {k : Nat} (h : w.toInt = k) (hk : k < 64) (i : Nat) : own_bit ((own_lshl (1 : Int64) w) - (1 : Int64)) i = decide (i < k) := by
  by_cases hi : i < 64
  · rw [own_i32n h]; exact own_maskall ⟨k, hk⟩ ⟨i, hi⟩
  · rw [own_bit_hi _ (by omega)]; symm; simp; omega
theorem own_word (q : Int64) (h0 : ¬ q < (0 : Int64)) (h1 : q < (4096 : Int64)) : ((own_lushr q (6 : Int32)).toInt32).toInt = q.toInt / 64 := by
  rw [Int64.lt_iff_toInt_lt, show (0 : Int64).toInt = 0 from by decide] at h0
  rw [Int64.lt_iff_toInt_lt, show (4096 : Int64).toInt = 4096 from by decide] at h1
  have h := c_lushr q 6 6 (by decide) (by decide)
  have h' : (own_lushr q 6).toInt = (q.toInt % 18446744073709551616) / (2 ^ 6 : Nat) := h
  have g := c_l2i (own_lushr q 6)
  have r := rng32 (own_lushr q 6).toInt32
  have e : ((2 ^ 6 : Nat) : Int) = 64 := by decide
  rw [e] at h'
  omega
theorem own_low6 (q : Int64) (h0 : ¬ q < (0 : Int64)) (h1 : q < (4096 : Int64)) : ((q &&& (63 : Int64)).toInt32).toInt = q.toInt % 64 := by
  rw [Int64.lt_iff_toInt_lt, show (0 : Int64).toInt = 0 from by decide] at h0
  have h := c_maskL q 63 6 (by decide) (by decide)
  rw [show ((2 ^ 6 : Nat) : Int) = 64 from by decide] at h
  have g := c_l2i (q &&& 63)
  have r := rng32 (q &&& 63).toInt32
  omega

/-! bytes of a natural number -/
def own_S (c : Nat → Bool) (v : Nat) : Nat → Nat → Nat
  | _, 0 => 0
  | s, n + 1 => (if c s then v else 0) + 256 * own_S c v (s + 1) n
theorem own_andsplit (x v m : Nat) (hv : v < 256) : x &&& (v + 256 * m) = (x % 256 &&& v) + 256 * (x / 256 &&& m) := by
  have h1 : (x &&& (v + 256 * m)) % 2 ^ 8 = x % 2 ^ 8 &&& (v + 256 * m) % 2 ^ 8 := Nat.and_mod_two_pow
  have h2 : (x &&& (v + 256 * m)) / 2 ^ 8 = x / 2 ^ 8 &&& (v + 256 * m) / 2 ^ 8 := Nat.and_div_two_pow
  rw [show (2 : Nat) ^ 8 = 256 from rfl] at h1 h2
  rw [show (v + 256 * m) % 256 = v from by omega] at h1
  rw [show (v + 256 * m) / 256 = m from by omega] at h2
  rw [← h1, ← h2]; omega
theorem own_byteok : ∀ b : Fin 256, (b.1 &&& 240 = 48 ∧ (b.1 + 6) % 256 &&& 240 = 48) ↔ (48 ≤ b.1 ∧ b.1 ≤ 57) := by decide +kernel
theorem own_bytelt : ∀ b : Fin 256, b.1 &&& 240 = 48 → b.1 < 64 := by decide +kernel
theorem own_swar (c : Nat → Bool) : ∀ (n s X : Nat), (X &&& own_S c 240 s n = own_S c 48 s n ∧ (X + own_S c 6 s n) &&& own_S c 240 s n = own_S c 48 s n) ↔ ∀ i, i < n → c (s + i) = true → 48 ≤ X / 256 ^ i % 256 ∧ X / 256 ^ i % 256 ≤ 57 := by
  intro n
  induction n with
  | zero => intro s X; simp [own_S]
  | succ n ih =>
    intro s X
    have hb : X % 256 < 256 := Nat.mod_lt _ (by decide)
    have key : (∀ i, i < n + 1 → c (s + i) = true → 48 ≤ X / 256 ^ i % 256 ∧ X / 256 ^ i % 256 ≤ 57) ↔ ((c s = true → 48 ≤ X % 256 ∧ X % 256 ≤ 57) ∧ ∀ i, i < n → c (s + 1 + i) = true → 48 ≤ X / 256 / 256 ^ i % 256 ∧ X / 256 / 256 ^ i % 256 ≤ 57) := by
      constructor
      · intro h
        refine ⟨fun hc => by simpa using h 0 (by omega) hc, fun i hi hc => ?_⟩
        have := h (i + 1) (by omega) (by rw [show s + (i + 1) = s + 1 + i from by omega]; exact hc)
        rw [Nat.pow_succ, Nat.mul_comm, ← Nat.div_div_eq_div_mul] at this
        exact this
      · rintro ⟨h0, h⟩ i hi hc
        cases i with
        | zero => simpa using h0 hc
        | succ i =>
          rw [Nat.pow_succ, Nat.mul_comm, ← Nat.div_div_eq_div_mul]
          exact h i (by omega) (by rw [show s + 1 + i = s + (i + 1) from by omega]; exact hc)
    rw [key, ← ih (s + 1) (X / 256)]
    simp only [own_S]
    cases hc : c s with
    | false =>
      simp only [Bool.false_eq_true, if_false, false_imp_iff, true_and]
      rw [own_andsplit X 0 _ (by decide), own_andsplit (X + _) 0 _ (by decide), Nat.and_zero, Nat.and_zero]
      rw [show (X + (0 + 256 * own_S c 6 (s + 1) n)) / 256 = X / 256 + own_S c 6 (s + 1) n from by omega]
      constructor
      · rintro ⟨a, b⟩; exact ⟨by omega, by omega⟩
      · rintro ⟨a, b⟩; exact ⟨by omega, by omega⟩
    | true =>
      simp only [if_true, true_imp_iff]
      have q1 := own_byteok ⟨X % 256, hb⟩
      have q2 := own_bytelt ⟨X % 256, hb⟩
      simp only at q1 q2
      rw [own_andsplit X 240 _ (by decide), own_andsplit (X + _) 240 _ (by decide)]
      have l1 : X % 256 &&& 240 < 256 := Nat.lt_of_le_of_lt Nat.and_le_right (by decide)
      have l2 : (X + (6 + 256 * own_S c 6 (s + 1) n)) % 256 &&& 240 < 256 := Nat.lt_of_le_of_lt Nat.and_le_right (by decide)
      rw [show (X + (6 + 256 * own_S c 6 (s + 1) n)) % 256 = (X % 256 + 6) % 256 from by omega] at l2 ⊢
      constructor
      · rintro ⟨a, b⟩
        have a1 : X % 256 &&& 240 = 48 := by omega
        have a2 := q2 a1
        rw [show (X + (6 + 256 * own_S c 6 (s + 1) n)) / 256 = X / 256 + own_S c 6 (s + 1) n from by omega] at b
        exact ⟨q1.mp ⟨a1, by omega⟩, by omega, by omega⟩
      · rintro ⟨a, b1, b2⟩
        obtain ⟨a1, a3⟩ := q1.mpr a
        have a2 := q2 a1
        rw [show (X + (6 + 256 * own_S c 6 (s + 1) n)) / 256 = X / 256 + own_S c 6 (s + 1) n from by omega]
        exact ⟨by omega, by omega⟩
def own_kb (k : Int32) (i : Nat) : Bool := k.toBitVec.getLsbD i
theorem own_iand1 (x : Int32) : (x &&& (1 : Int32)) = (0 : Int32) ↔ x.toBitVec.getLsbD 0 = false := by
  constructor
  · intro h
    have e := congrArg (fun z : Int32 => z.toBitVec.getLsbD 0) h
    have e2 : (x.toBitVec &&& 1#32).getLsbD 0 = (0#32).getLsbD 0 := e
    rw [BitVec.getLsbD_and] at e2
    simpa using e2
  · intro h
    apply Int32.toBitVec_inj.mp
    show x.toBitVec &&& 1#32 = 0#32
    apply BitVec.eq_of_getLsbD_eq; intro i hi
    rw [BitVec.getLsbD_and, BitVec.getLsbD_one]
    cases i with
    | zero => rw [h]; rfl
    | succ n => simp
theorem own_kb1 (k : Int32) (i : Nat) (y : Int32) (hy : ((y &&& 31).toBitVec % 32#32).toNat = i) : ((own_iushr k y) &&& (1 : Int32)) = (0 : Int32) ↔ own_kb k i = false := by
  rw [own_iand1]
  have e : (own_iushr k y).toBitVec = k.toBitVec >>> i := by
    show k.toBitVec >>> ((y &&& 31).toBitVec % 32#32) = _
    rw [BitVec.ushiftRight_eq', hy]
  rw [e, BitVec.getLsbD_ushiftRight]; rfl
theorem own_kb2 (k : Int32) (i : Nat) (m : Int32) (hi : i < 32) (hm : m.toBitVec = 1#32 <<< i) : (k &&& m) = (0 : Int32) ↔ own_kb k i = false := by
  have b : ∀ j, j < 32 → (1#32 <<< i).getLsbD j = decide (j = i) := by
    intro j hj
    rw [BitVec.getLsbD_shiftLeft, BitVec.getLsbD_one]
    by_cases q : j = i
    · subst q; simp [hj]
    · by_cases q2 : j < i
      · simp [hj, q2, q]
      · have : ¬ (j - i = 0) := by omega
        simp [hj, q2, q, this]
  constructor
  · intro h
    have e := congrArg (fun z : Int32 => z.toBitVec.getLsbD i) h
    have e2 : (k.toBitVec &&& m.toBitVec).getLsbD i = (0#32).getLsbD i := e
    rw [BitVec.getLsbD_and, hm, b i hi] at e2
    simpa [own_kb] using e2
  · intro h
    apply Int32.toBitVec_inj.mp
    show k.toBitVec &&& m.toBitVec = 0#32
    apply BitVec.eq_of_getLsbD_eq; intro j hj
    rw [BitVec.getLsbD_and, hm, b j hj]
    by_cases q : j = i
    · subst q; unfold own_kb at h; rw [h]; simp
    · simp [q]
def own_KK (b0 b1 b2 b3 b4 b5 b6 b7 : Bool) : Int64 := ((((((((if b0 = false then (0 : Int64) else (255 : Int64)) ||| (if b1 = false then (0 : Int64) else (65280 : Int64))) ||| (if b2 = false then (0 : Int64) else (16711680 : Int64))) ||| (if b3 = false then (0 : Int64) else (4278190080 : Int64))) ||| (if b4 = false then (0 : Int64) else (1095216660480 : Int64))) ||| (if b5 = false then (0 : Int64) else (280375465082880 : Int64))) ||| (if b6 = false then (0 : Int64) else (71776119061217280 : Int64))) ||| (if b7 = false then (0 : Int64) else (-72057594037927936 : Int64)))
theorem own_spread (k : Int32) : own_f1 k = own_KK (own_kb k 0) (own_kb k 1) (own_kb k 2) (own_kb k 3) (own_kb k 4) (own_kb k 5) (own_kb k 6) (own_kb k 7) := by
  simp only [own_f1, own_KK, own_kb2 k 0 1 (by decide) (by decide), own_kb2 k 1 2 (by decide) (by decide), own_kb2 k 2 4 (by decide) (by decide), own_kb2 k 3 8 (by decide) (by decide), own_kb2 k 4 16 (by decide) (by decide), own_kb2 k 5 32 (by decide) (by decide), own_kb2 k 6 64 (by decide) (by decide), own_kb2 k 7 128 (by decide) (by decide)]
def own_SS (v : Nat) (b0 b1 b2 b3 b4 b5 b6 b7 : Bool) : Nat := (if b0 then v else 0) + 256 * ((if b1 then v else 0) + 256 * ((if b2 then v else 0) + 256 * ((if b3 then v else 0) + 256 * ((if b4 then v else 0) + 256 * ((if b5 then v else 0) + 256 * ((if b6 then v else 0) + 256 * ((if b7 then v else 0) + 256 * 0)))))))
theorem own_SSv (c : Nat → Bool) (v : Nat) : own_S c v 0 8 = own_SS v (c 0) (c 1) (c 2) (c 3) (c 4) (c 5) (c 6) (c 7) := rfl
theorem own_m240 : ∀ b0 b1 b2 b3 b4 b5 b6 b7 : Bool, (own_KK b0 b1 b2 b3 b4 b5 b6 b7 &&& (-1085102592571150096 : Int64)).toBitVec.toNat = own_SS 240 b0 b1 b2 b3 b4 b5 b6 b7 := by decide +kernel
theorem own_m48 : ∀ b0 b1 b2 b3 b4 b5 b6 b7 : Bool, (own_KK b0 b1 b2 b3 b4 b5 b6 b7 &&& (3472328296227680304 : Int64)).toBitVec.toNat = own_SS 48 b0 b1 b2 b3 b4 b5 b6 b7 := by decide +kernel
theorem own_m6 : ∀ b0 b1 b2 b3 b4 b5 b6 b7 : Bool, (own_KK b0 b1 b2 b3 b4 b5 b6 b7 &&& (434041037028460038 : Int64)).toBitVec.toNat = own_SS 6 b0 b1 b2 b3 b4 b5 b6 b7 := by decide +kernel
theorem own_kbits : ∀ b0 b1 b2 b3 b4 b5 b6 b7 : Bool, ∀ j : Fin 64, own_bit (own_KK b0 b1 b2 b3 b4 b5 b6 b7) j.1 = (match j.1 / 8 with | 0 => b0 | 1 => b1 | 2 => b2 | 3 => b3 | 4 => b4 | 5 => b5 | 6 => b6 | _ => b7) := by decide +kernel
theorem own_fbits : ∀ j : Fin 64, own_bit (1085102592571150095 : Int64) j.1 = decide (j.1 % 8 < 4) := by decide +kernel
theorem own_ieq (x y : Int64) : x = y ↔ x.toBitVec.toNat = y.toBitVec.toNat := by
  constructor
  · intro h; rw [h]
  · intro h; exact Int64.toBitVec_inj.mp (BitVec.eq_of_toNat_eq h)
theorem own_modand (a m : Nat) (h : m < 2 ^ 64) : a % 2 ^ 64 &&& m = a &&& m := by
  have e : (a &&& m) % 2 ^ 64 = a % 2 ^ 64 &&& m % 2 ^ 64 := Nat.and_mod_two_pow
  rw [Nat.mod_eq_of_lt h, Nat.mod_eq_of_lt (Nat.lt_of_le_of_lt Nat.and_le_right h)] at e
  exact e.symm
/-- the check of all kept bytes at once -/
theorem own_dig (w : Int64) (k : Int32) : own_f6 w (own_f1 k) = if (∀ i, i < 8 → own_kb k i = true → 48 ≤ w.toBitVec.toNat / 256 ^ i % 256 ∧ w.toBitVec.toNat / 256 ^ i % 256 ≤ 57) then ((w &&& own_f1 k) &&& (1085102592571150095 : Int64)) else (-1 : Int64) := by
  have sw := own_swar (own_kb k) 8 0 w.toBitVec.toNat
  simp only [Nat.zero_add] at sw
  rw [own_SSv, own_SSv, own_SSv, ← own_m240, ← own_m48, ← own_m6, ← own_spread] at sw
  have A : (w &&& (own_f1 k &&& (-1085102592571150096 : Int64))) = (own_f1 k &&& (3472328296227680304 : Int64)) ↔ w.toBitVec.toNat &&& (own_f1 k &&& (-1085102592571150096 : Int64)).toBitVec.toNat = (own_f1 k &&& (3472328296227680304 : Int64)).toBitVec.toNat := by
    rw [own_ieq]
    have : (w &&& (own_f1 k &&& (-1085102592571150096 : Int64))).toBitVec.toNat = w.toBitVec.toNat &&& (own_f1 k &&& (-1085102592571150096 : Int64)).toBitVec.toNat := BitVec.toNat_and ..
    rw [this]
  have C : ((w + (own_f1 k &&& (434041037028460038 : Int64))) &&& (own_f1 k &&& (-1085102592571150096 : Int64))) = (own_f1 k &&& (3472328296227680304 : Int64)) ↔ (w.toBitVec.toNat + (own_f1 k &&& (434041037028460038 : Int64)).toBitVec.toNat) &&& (own_f1 k &&& (-1085102592571150096 : Int64)).toBitVec.toNat = (own_f1 k &&& (3472328296227680304 : Int64)).toBitVec.toNat := by
    rw [own_ieq]
    have e1 : ((w + (own_f1 k &&& (434041037028460038 : Int64))) &&& (own_f1 k &&& (-1085102592571150096 : Int64))).toBitVec.toNat = (w + (own_f1 k &&& (434041037028460038 : Int64))).toBitVec.toNat &&& (own_f1 k &&& (-1085102592571150096 : Int64)).toBitVec.toNat := BitVec.toNat_and ..
    have e2 : (w + (own_f1 k &&& (434041037028460038 : Int64))).toBitVec.toNat = (w.toBitVec.toNat + (own_f1 k &&& (434041037028460038 : Int64)).toBitVec.toNat) % 2 ^ 64 := BitVec.toNat_add ..
    rw [e1, e2, own_modand _ _ (BitVec.isLt _)]
  rw [← A, ← C] at sw
  simp only [own_f6]
  by_cases h : ∀ i, i < 8 → own_kb k i = true → 48 ≤ w.toBitVec.toNat / 256 ^ i % 256 ∧ w.toBitVec.toNat / 256 ^ i % 256 ≤ 57
  · rw [if_pos h]
    obtain ⟨h1, h2⟩ := sw.mpr h
    rw [if_pos h1, if_pos h2, if_neg (by decide)]
  · rw [if_neg h]
    by_cases h1 : (w &&& (own_f1 k &&& (-1085102592571150096 : Int64))) = (own_f1 k &&& (3472328296227680304 : Int64))
    · rw [if_pos h1]
      have h2 := fun q => h (sw.mp ⟨h1, q⟩)
      rw [if_neg h2, if_pos rfl]
    · rw [if_neg h1, if_pos rfl]
theorem own_byte (w : Int64) (y : Int32) (i : Nat) (hi : i < 8) (hy : y.toBitVec.toNat % 64 = 8 * i) : (((own_lushr w y) &&& (255 : Int64)).toInt32).toInt = ((w.toBitVec.toNat / 256 ^ i % 256 : Nat) : Int) := by
  have e : ((own_lushr w y) &&& (255 : Int64)).toBitVec.toNat = w.toBitVec.toNat / 256 ^ i % 256 := by
    show ((own_lushr w y).toBitVec &&& (255 : Int64).toBitVec).toNat = _
    rw [BitVec.toNat_and, own_lushr_bv w y (8 * i) hy, BitVec.toNat_ushiftRight, show (255 : Int64).toBitVec.toNat = 2 ^ 8 - 1 from by decide, Nat.and_two_pow_sub_one_eq_mod, Nat.shiftRight_eq_div_pow, Nat.pow_mul]
  have l : w.toBitVec.toNat / 256 ^ i % 256 < 256 := Nat.mod_lt _ (by decide)
  have e2 : ((own_lushr w y) &&& (255 : Int64)).toInt = ((w.toBitVec.toNat / 256 ^ i % 256 : Nat) : Int) := by
    show ((own_lushr w y) &&& (255 : Int64)).toBitVec.toInt = _
    rw [BitVec.toInt_eq_toNat_cond, e, if_pos (by omega)]
  have g := c_l2i ((own_lushr w y) &&& (255 : Int64))
  have r := rng32 ((own_lushr w y) &&& (255 : Int64)).toInt32
  omega
theorem own_okv (w : Int64) (k : Int32) (y : Int32) (i : Nat) (hi : i < 8) (hy : ((8 : Int32) * y).toBitVec.toNat % 64 = 8 * i) (hy2 : ((y &&& 31).toBitVec % 32#32).toNat = i) : own_f4 w k y = (0 : Int32) ↔ ¬ (own_kb k i = true → 48 ≤ w.toBitVec.toNat / 256 ^ i % 256 ∧ w.toBitVec.toNat / 256 ^ i % 256 ≤ 57) := by
  have b := own_byte w (8 * y) i hi hy
  have k1 := own_kb1 k i y hy2
  simp only [own_f4, k1, Int32.lt_iff_toInt_lt, b, show (48 : Int32).toInt = 48 from by decide, show (57 : Int32).toInt = 57 from by decide]
  generalize w.toBitVec.toNat / 256 ^ i % 256 = x
  cases own_kb k i
  · simp
  · simp only [Bool.true_eq_false, if_false, true_imp_iff]
    by_cases c1 : (x : Int) < 48
    · rw [if_pos c1]; simp; omega
    · rw [if_neg c1]
      by_cases c2 : (57 : Int) < x
      · rw [if_pos c2]; simp; omega
      · rw [if_neg c2]; simp; omega
theorem own_lowb : ∀ z : Fin 10, ∀ t : Fin 64, own_bit ((Int32.ofNat (48 + z.1) - (48 : Int32)).toInt64) t.1 = (decide (t.1 < 4) && Nat.testBit (48 + z.1) t.1) := by decide +kernel
theorem own_valb (w : Int64) (k : Int32) (y : Int32) (i : Nat) (hi : i < 8) (hy : ((8 : Int32) * y).toInt = ((8 * i : Nat) : Int)) (hy2 : ((y &&& 31).toBitVec % 32#32).toNat = i) (hok : own_kb k i = true → 48 ≤ w.toBitVec.toNat / 256 ^ i % 256 ∧ w.toBitVec.toNat / 256 ^ i % 256 ≤ 57) (j : Nat) (hj : j < 64) :
    own_bit (own_f5 w k y) j = (decide (j / 8 = i) && decide (j % 8 < 4) && own_kb k i && own_bit w j) := by
  have b := own_byte w (8 * y) i hi (own_sh hy (by omega))
  have k1 := own_kb1 k i y hy2
  simp only [own_f5, k1]
  cases hc : own_kb k i
  · rw [if_pos rfl]
    show (0#64).getLsbD j = _
    simp
  · rw [if_neg (by simp)]
    have ho := hok hc
    rw [own_bit_shl _ hy (by omega)]
    generalize ((own_lushr w ((8 : Int32) * y)) &&& (255 : Int64)).toInt32 = z at *
    have hz : z = Int32.ofNat (48 + (w.toBitVec.toNat / 256 ^ i % 256 - 48)) := by
      rw [show 48 + (w.toBitVec.toNat / 256 ^ i % 256 - 48) = w.toBitVec.toNat / 256 ^ i % 256 from by omega]
      exact own_i32n b
    have q := own_lowb ⟨w.toBitVec.toNat / 256 ^ i % 256 - 48, by omega⟩
    simp only at q
    rw [← hz, show 48 + (w.toBitVec.toNat / 256 ^ i % 256 - 48) = w.toBitVec.toNat / 256 ^ i % 256 from by omega] at q
    have q2 := q ⟨j - 8 * i, by omega⟩
    simp only at q2
    rw [q2]
    have tb : ∀ t, t < 8 → Nat.testBit (w.toBitVec.toNat / 256 ^ i % 256) t = own_bit w (8 * i + t) := by
      intro t ht
      rw [show (256 : Nat) = 2 ^ 8 from rfl, ← Nat.pow_mul, Nat.testBit_mod_two_pow, Nat.testBit_div_two_pow]
      simp only [ht, decide_true, Bool.true_and]
      rw [BitVec.testBit_toNat, Nat.add_comm]; rfl
    simp only [hj, decide_true, Bool.true_and, Bool.and_true]
    by_cases c1 : j < 8 * i
    · have : ¬ (j / 8 = i) := by omega
      simp [c1, this]
    · by_cases c2 : j - 8 * i < 4
      · have e1 : j / 8 = i := by omega
        have e2 : j % 8 < 4 := by omega
        rw [tb _ (by omega), show 8 * i + (j - 8 * i) = j from by omega]
        simp [c1, c2, e1, e2]
      · simp only [c1, c2, decide_false, Bool.not_false, Bool.true_and, Bool.false_and]
        by_cases e1 : j / 8 = i
        · have e2 : ¬ (j % 8 < 4) := by omega
          simp [e2]
        · simp [e1]
theorem own_beq (x y : Int64) (h : ∀ j, j < 64 → own_bit x j = own_bit y j) : x = y := Int64.toBitVec_inj.mp (BitVec.eq_of_getLsbD_eq h)
theorem own_valall (w : Int64) (k : Int32) (h : ∀ i, i < 8 → own_kb k i = true → 48 ≤ w.toBitVec.toNat / 256 ^ i % 256 ∧ w.toBitVec.toNat / 256 ^ i % 256 ≤ 57) :
    ((w &&& own_f1 k) &&& (1085102592571150095 : Int64)) = ((((((((own_f5 w k (0 : Int32)) ||| (own_f5 w k (1 : Int32))) ||| (own_f5 w k (2 : Int32))) ||| (own_f5 w k (3 : Int32))) ||| (own_f5 w k (4 : Int32))) ||| (own_f5 w k (5 : Int32))) ||| (own_f5 w k (6 : Int32))) ||| (own_f5 w k (7 : Int32))) := by
  apply own_beq
  intro j hj
  have kb := own_kbits (own_kb k 0) (own_kb k 1) (own_kb k 2) (own_kb k 3) (own_kb k 4) (own_kb k 5) (own_kb k 6) (own_kb k 7) ⟨j, hj⟩
  rw [← own_spread] at kb
  have fb := own_fbits ⟨j, hj⟩
  simp only at kb fb
  rw [own_bit_and, own_bit_and, kb, fb]
  simp only [own_bit_or]
  rw [own_valb w k 0 0 (by decide) (by decide) (by decide) (h 0 (by decide)) j hj, own_valb w k 1 1 (by decide) (by decide) (by decide) (h 1 (by decide)) j hj, own_valb w k 2 2 (by decide) (by decide) (by decide) (h 2 (by decide)) j hj, own_valb w k 3 3 (by decide) (by decide) (by decide) (h 3 (by decide)) j hj,
    own_valb w k 4 4 (by decide) (by decide) (by decide) (h 4 (by decide)) j hj, own_valb w k 5 5 (by decide) (by decide) (by decide) (h 5 (by decide)) j hj, own_valb w k 6 6 (by decide) (by decide) (by decide) (h 6 (by decide)) j hj, own_valb w k 7 7 (by decide) (by decide) (by decide) (h 7 (by decide)) j hj]
  rcases (show j / 8 = 0 ∨ j / 8 = 1 ∨ j / 8 = 2 ∨ j / 8 = 3 ∨ j / 8 = 4 ∨ j / 8 = 5 ∨ j / 8 = 6 ∨ j / 8 = 7 by omega) with q | q | q | q | q | q | q | q <;> rw [q] <;> simp <;> cases own_bit w j <;> simp <;> cases decide (j % 8 < 4) <;> simp
theorem own_plain (q0 q1 : Int64) (p2 p3 : Int32) : own_f0 q0 q1 p2 p3 = 1 := by
  simp only [own_f0]
  generalize ((q0 &&& (own_f1 p2)) ||| ((own_f2 q1) &&& ((own_f1 p2) ^^^ (-1 : Int64)))) = w
  apply if_pos
  rw [own_dig]
  have o0 := own_okv w p3 0 0 (by decide) (by decide) (by decide)
  have o1 := own_okv w p3 1 1 (by decide) (by decide) (by decide)
  have o2 := own_okv w p3 2 2 (by decide) (by decide) (by decide)
  have o3 := own_okv w p3 3 3 (by decide) (by decide) (by decide)
  have o4 := own_okv w p3 4 4 (by decide) (by decide) (by decide)
  have o5 := own_okv w p3 5 5 (by decide) (by decide) (by decide)
  have o6 := own_okv w p3 6 6 (by decide) (by decide) (by decide)
  have o7 := own_okv w p3 7 7 (by decide) (by decide) (by decide)
  by_cases h : ∀ i, i < 8 → own_kb p3 i = true → 48 ≤ w.toBitVec.toNat / 256 ^ i % 256 ∧ w.toBitVec.toNat / 256 ^ i % 256 ≤ 57
  · rw [if_pos h, own_valall w p3 h]
    have n0 := fun q => (o0.mp q) (h 0 (by decide))
    have n1 := fun q => (o1.mp q) (h 1 (by decide))
    have n2 := fun q => (o2.mp q) (h 2 (by decide))
    have n3 := fun q => (o3.mp q) (h 3 (by decide))
    have n4 := fun q => (o4.mp q) (h 4 (by decide))
    have n5 := fun q => (o5.mp q) (h 5 (by decide))
    have n6 := fun q => (o6.mp q) (h 6 (by decide))
    have n7 := fun q => (o7.mp q) (h 7 (by decide))
    rw [if_neg n0, if_neg n1, if_neg n2, if_neg n3, if_neg n4, if_neg n5, if_neg n6, if_neg n7, if_neg (by decide)]
  · rw [if_neg h]
    have ex : own_f4 w p3 0 = 0 ∨ own_f4 w p3 1 = 0 ∨ own_f4 w p3 2 = 0 ∨ own_f4 w p3 3 = 0 ∨ own_f4 w p3 4 = 0 ∨ own_f4 w p3 5 = 0 ∨ own_f4 w p3 6 = 0 ∨ own_f4 w p3 7 = 0 := by
      rw [o0, o1, o2, o3, o4, o5, o6, o7]
      apply Classical.byContradiction
      intro q
      simp only [not_or, Classical.not_not] at q
      apply h
      intro i hi
      rcases (show i = 0 ∨ i = 1 ∨ i = 2 ∨ i = 3 ∨ i = 4 ∨ i = 5 ∨ i = 6 ∨ i = 7 by omega) with e | e | e | e | e | e | e | e <;> subst e
      · exact q.1
      · exact q.2.1
      · exact q.2.2.1
      · exact q.2.2.2.1
      · exact q.2.2.2.2.1
      · exact q.2.2.2.2.2.1
      · exact q.2.2.2.2.2.2.1
      · exact q.2.2.2.2.2.2.2
    rw [if_pos]
    repeat' split
    all_goals first | rfl | (exfalso; rcases ex with e | e | e | e | e | e | e | e <;> contradiction)

set_option maxRecDepth 65536 in
set_option maxHeartbeats 40000000 in
theorem comes_1 {Post : Tables → Env → Array Value → State → Outcome → State → Prop} (hpost : ∀ tb e args s v u, (limb_1_1.after args s (.returned v) u = true ∧ limb_1_2.after args s (.returned v) u = true ∧ True) → FrameEnd s (.returned v) u (Jvm.fieldLocs frame_1_writes args s ++ Jvm.arrayLocs frame_1_arrays args s ++ Jvm.staticLocs frame_1_statics s) 0 0 → Post tb e args s (.returned v) u) :
    ArmFor flags0 classFile x code maxLocals ret World_1 tables_1 room_1 Calls_1 rest_1 Pre_1 Post := by
  intro l hfl _ _ p e ha hc hk s m args below hf hA hF happ hP
  obtain ⟨hcalls, hrest, hpre⟩ := hP
  obtain ⟨-, -, -, hnamed, -, -, -, hat⟩ := (Spec.applies_iff hf).mp happ
  obtain ⟨hg, hn⟩ := and_e (Cond.before_iff.mp (show (Jvm.Cond.and given_1 narrow_1).before args s = true from hpre))
  obtain ⟨g1, g2⟩ := and_e hg
  obtain ⟨g3, g4⟩ := and_e g2
  obtain ⟨g5, g6⟩ := and_e g4
  obtain ⟨g7, g8⟩ := and_e g6
  obtain ⟨w0, w1, w2, w3, rfl⟩ : ∃ w0 w1 w2 w3 : Value, args = #[w0, w1, w2, w3] := by
    have hs : args.size = 4 := by simpa [Cond.value, given_1] using g1
    obtain ⟨L⟩ := args
    match L, hs with
    | [w0, w1, w2, w3], _ => exact ⟨w0, w1, w2, w3, rfl⟩
  have hw := fun d (hd : d ∈ tables_1) => atoms_spec (ws := Jvm.Cond.code x code maxLocals ret :: tables_1) hat d (List.mem_cons_of_mem _ hd)
  have hfit : Fit s := fun {y c} hc i hi => by
    obtain ⟨ha, rfl⟩ := Array.getElem?_eq_some_iff.mp hc
    have q := List.all_eq_true.mp ((Array.all_eq_true_iff_forall_mem.mp hF) _ (Array.getElem_mem ha)) i (List.mem_range.mpr hi)
    simpa [Array.getElem?_eq_getElem hi] using q
  obtain ⟨i0, ei0⟩ := isL_v g3
  obtain rfl : w0 = (.long i0) := Option.some.inj ei0
  obtain ⟨i1, ei1⟩ := isL_v g5
  obtain rfl : w1 = (.long i1) := Option.some.inj ei1
  obtain ⟨i2, ei2⟩ := is_v g7
  obtain rfl : w2 = (.int i2) := Option.some.inj ei2
  obtain ⟨i3, ei3⟩ := is_v g8
  obtain rfl : w3 = (.int i3) := Option.some.inj ei3
  obtain ⟨n, o, h1, h2, h3, _, L, rfl, ⟨rfl, N, hrest'⟩, hq⟩ := rm0 l s _ hw tables_1 i0 i1 i2 i3 s.heap s.heap.size (Nat.le_refl _) p e ha hc hk s m _ below hf ((Spec.applies_iff_loose hf).mp happ).1 ⟨rfl, State.Warmed39.refl s, rfl⟩ trivial
  refine ⟨n, _, h1, h2, h3, hpost _ _ _ _ _ _ ⟨Cond.after_iff.mpr rfl, Cond.after_iff.mpr (eq_i res_at (Term.int_eval (1)) (congrArg Value.int (own_plain i0 i1 i2 i3))), trivial⟩ ⟨hq.1, hq.2.1, (hq.2.2.sift fun y hy => Or.inr (N y hy)).mono (by decide) (by decide)⟩⟩
theorem main_1_1 : Claimed_1_1 := comes_1 fun _ _ _ _ _ _ h hF => ⟨h.1, hF⟩
theorem main_1_2 : Claimed_1_2 := comes_1 fun _ _ _ _ _ _ h hF => ⟨h.2.1, hF⟩
end Jvm.Pilot.@@N@@
namespace Jvm.Pilot.@@N@@
open Jvm Jvm.ClassFile Sem Op Lib Jvm.Free Jvm.Stand Jvm.Pilot.@@N@@.Jvm.D
/-! MADE BY PROGRAM (witnessworld.py) out of the Statement's table words and the real class files: 9 classes; the members and pool entries that the words name. The judged class is class 1, her method 6. -/
namespace start1
open Jvm.ClassFile
def u (s : String) : CpInfo := .utf8 (stringToUtf16 s)
/-- a pool by its gaps: so many unusable entries, then the entry; so many at the end -/
def gap : Nat → List CpInfo → List CpInfo
  | 0, r => r
  | n + 1, r => .unusable :: gap n r
def poolList (es : List (Nat × CpInfo)) (last : Nat) : List CpInfo := es.foldr (fun e r => gap e.1 (e.2 :: r)) (gap last [])
def pool (es : List (Nat × CpInfo)) (last : Nat) : Array CpInfo := ⟨poolList es last⟩
def fileOf (pool : Array CpInfo) (this : Nat) (attrs : Array Attribute := #[]) (ms : Array MethodInfo := #[]) (fl : Nat := 33) (sup : Nat := 0) (ifs : Array Nat := #[]) (fds : Array FieldInfo := #[]) : ClassFile where
  minorVersion := 0
  majorVersion := 65
  constantPool := pool
  accessFlags := fl
  thisClass := this
  superClass := sup
  interfaces := ifs
  fields := fds
  methods := ms
  attributes := attrs
def plain (name : String) (sup : Option ClassId) : Class where
  name := name
  kind := .ordinary
  loader := none
  accessFlags := 33
  super := sup
  interfaces := #[]
  cf := none
  fields := #[]
  methods := #[]
  instanceTypes := #[]
  staticTypes := #[]
  resolved := #[]
  callSites := []
  init := .initialized
  statics := none
  mirror := none

def pool0 : Array CpInfo := pool [(5, u "<init>"), (0, u "()V"), (1, .class_ 10), (1, u "java/lang/Object")] 113

def k0m0 : Method := { name := "<init>", desc := "()V", sig := { parameters := [], returnType := none }, accessFlags := 1, code := none }
/-- java/lang/Object -/
def k0 : Class := { plain "java/lang/Object" none with
  accessFlags := 33
  interfaces := #[]
  cf := some (fileOf pool0 8 #[] #[{ accessFlags := 1, nameIndex := 5, descriptorIndex := 6, attributes := #[] }] 33 0 #[] #[])
  fields := #[]
  methods := #[k0m0]
  instanceTypes := #[]
  staticTypes := #[]
  resolved := Array.replicate 124 none
  statics := none }

def pool1 : Array CpInfo := pool [(2, .class_ 4), (1, u "java/lang/Object"), (0, u "<init>"), (0, u "()V"), (0, .long 255), (1, .long 65280), (1, .long 16711680), (1, .long 4278190080), (1, .long 1095216660480), (1, .long 280375465082880), (1, .long 71776119061217280), (1, .long 18374686479671623680), (1, .methodref 24 25), (0, .class_ 26), (0, .nameAndType 27 28), (0, u "com/example/plain_tariff/plaintariff/ByteWordsDigitsPinLaw"), (0, u "digitByte"), (0, u "(JI)J"), (0, .methodref 24 30), (0, .nameAndType 31 32), (0, u "spread"), (0, u "(I)J"), (0, .methodref 24 34), (0, .nameAndType 35 36), (0, u "digitWord"), (0, u "(J)J"), (0, .long 18446744073709551615), (1, .methodref 24 40), (0, .nameAndType 41 42), (0, u "ok"), (0, u "(JII)Z"), (0, .methodref 24 44), (0, .nameAndType 45 46), (0, u "val"), (0, u "(JII)J"), (0, .methodref 48 49), (0, .class_ 50), (0, .nameAndType 51 52), (0, u "com/example/plain_tariff/plaintariff/ByteWords"), (0, u "digits"), (0, u "(JJ)J"), (3, u "law"), (0, u "(JJII)Z")] 2

def k1m0 : Method := { name := "<init>", desc := "()V", sig := { parameters := [], returnType := none }, accessFlags := 2, code := none }
def k1c1 : Code := { maxStack := 4, maxLocals := 1, code := method_2_code, exceptionTable := #[], attributes := #[] }
def k1m1 : Method := { name := "spread", desc := "(I)J", sig := { parameters := [.int], returnType := some .long }, accessFlags := 10, code := some k1c1 }
def k1c2 : Code := { maxStack := 4, maxLocals := 4, code := method_3_code, exceptionTable := #[], attributes := #[] }
def k1m2 : Method := { name := "digitByte", desc := "(JI)J", sig := { parameters := [.long, .int], returnType := some .long }, accessFlags := 10, code := some k1c2 }
def k1c3 : Code := { maxStack := 5, maxLocals := 2, code := method_4_code, exceptionTable := #[], attributes := #[] }
def k1m3 : Method := { name := "digitWord", desc := "(J)J", sig := { parameters := [.long], returnType := some .long }, accessFlags := 10, code := some k1c3 }
def k1c4 : Code := { maxStack := 4, maxLocals := 5, code := method_5_code, exceptionTable := #[], attributes := #[] }
def k1m4 : Method := { name := "ok", desc := "(JII)Z", sig := { parameters := [.long, .int, .int], returnType := some .boolean }, accessFlags := 10, code := some k1c4 }
def k1c5 : Code := { maxStack := 4, maxLocals := 5, code := method_6_code, exceptionTable := #[], attributes := #[] }
def k1m5 : Method := { name := "val", desc := "(JII)J", sig := { parameters := [.long, .int, .int], returnType := some .long }, accessFlags := 10, code := some k1c5 }
def k1c6 : Code := { maxStack := 8, maxLocals := 15, code := code, exceptionTable := #[], attributes := #[] }
def k1m6 : Method := { name := "law", desc := "(JJII)Z", sig := { parameters := [.long, .long, .int, .int], returnType := some .boolean }, accessFlags := 9, code := some k1c6 }
/-- com/example/plain_tariff/plaintariff/ByteWordsDigitsPinLaw -/
def k1 : Class := { plain "com/example/plain_tariff/plaintariff/ByteWordsDigitsPinLaw" (some 0) with
  accessFlags := 49
  interfaces := #[]
  cf := some (fileOf pool1 24 #[] #[{ accessFlags := 2, nameIndex := 5, descriptorIndex := 6, attributes := #[] }, { accessFlags := 10, nameIndex := 31, descriptorIndex := 32, attributes := #[] }, { accessFlags := 10, nameIndex := 27, descriptorIndex := 28, attributes := #[] }, { accessFlags := 10, nameIndex := 35, descriptorIndex := 36, attributes := #[] }, { accessFlags := 10, nameIndex := 41, descriptorIndex := 42, attributes := #[] }, { accessFlags := 10, nameIndex := 45, descriptorIndex := 46, attributes := #[] }, { accessFlags := 9, nameIndex := 56, descriptorIndex := 57, attributes := #[] }] 49 2 #[] #[])
  fields := #[]
  methods := #[k1m0, k1m1, k1m2, k1m3, k1m4, k1m5, k1m6]
  instanceTypes := #[]
  staticTypes := #[]
  resolved := Array.replicate 60 none
  statics := none }

def pool2 : Array CpInfo := pool [(3, .class_ 4), (0, u "com/example/plain_tariff/plaintariff/ByteWords"), (1, .class_ 8), (1, u "java/lang/Object"), (0, u "<init>"), (0, u "()V"), (46, .long 18446744073709551615), (9, .long 17361641481138401520), (1, .long 3472328296227680304), (1, .long 434041037028460038), (1, .long 1085102592571150095), (3, u "BYTES"), (0, u "I"), (2, u "BYTE_SHIFT"), (1, u "ONES"), (0, u "J"), (0, u "LOW_BITS"), (0, u "HIGH_BITS"), (0, u "HIGH_HALVES"), (0, u "LOW_HALVES"), (0, u "ZEROS"), (0, u "SIXES"), (9, u "(JJ)J"), (3, u "digits")] 4

def k2m0 : Method := { name := "<init>", desc := "()V", sig := { parameters := [], returnType := none }, accessFlags := 2, code := none }
def k2c1 : Code := { maxStack := 6, maxLocals := 9, code := prog_6_method_11_code, exceptionTable := #[], attributes := #[] }
def k2m1 : Method := { name := "digits", desc := "(JJ)J", sig := { parameters := [.long, .long], returnType := some .long }, accessFlags := 8, code := some k2c1 }
/-- com/example/plain_tariff/plaintariff/ByteWords -/
def k2 : Class := { plain "com/example/plain_tariff/plaintariff/ByteWords" (some 0) with
  accessFlags := 32
  interfaces := #[]
  cf := some (fileOf pool2 3 #[] #[{ accessFlags := 2, nameIndex := 9, descriptorIndex := 10, attributes := #[] }, { accessFlags := 8, nameIndex := 104, descriptorIndex := 100, attributes := #[] }] 32 6 #[] #[{ accessFlags := 24, nameIndex := 77, descriptorIndex := 78, attributes := #[] }, { accessFlags := 26, nameIndex := 81, descriptorIndex := 78, attributes := #[] }, { accessFlags := 26, nameIndex := 83, descriptorIndex := 84, attributes := #[] }, { accessFlags := 26, nameIndex := 85, descriptorIndex := 84, attributes := #[] }, { accessFlags := 26, nameIndex := 86, descriptorIndex := 84, attributes := #[] }, { accessFlags := 26, nameIndex := 87, descriptorIndex := 84, attributes := #[] }, { accessFlags := 26, nameIndex := 88, descriptorIndex := 84, attributes := #[] }, { accessFlags := 26, nameIndex := 89, descriptorIndex := 84, attributes := #[] }, { accessFlags := 26, nameIndex := 90, descriptorIndex := 84, attributes := #[] }])
  fields := #[{ name := "BYTES", type := .int, accessFlags := 24, slot := 0, constantValue := 0 }, { name := "BYTE_SHIFT", type := .int, accessFlags := 26, slot := 1, constantValue := 0 }, { name := "ONES", type := .long, accessFlags := 26, slot := 2, constantValue := 0 }, { name := "LOW_BITS", type := .long, accessFlags := 26, slot := 3, constantValue := 0 }, { name := "HIGH_BITS", type := .long, accessFlags := 26, slot := 4, constantValue := 0 }, { name := "HIGH_HALVES", type := .long, accessFlags := 26, slot := 5, constantValue := 0 }, { name := "LOW_HALVES", type := .long, accessFlags := 26, slot := 6, constantValue := 0 }, { name := "ZEROS", type := .long, accessFlags := 26, slot := 7, constantValue := 0 }, { name := "SIXES", type := .long, accessFlags := 26, slot := 8, constantValue := 0 }]
  methods := #[k2m0, k2m1]
  instanceTypes := #[]
  staticTypes := #[.int, .int, .long, .long, .long, .long, .long, .long, .long]
  resolved := Array.replicate 109 none
  statics := none }

def pool3 : Array CpInfo := pool [(1, u "java/lang/Cloneable"), (0, .class_ 1), (0, u "java/lang/Object"), (0, .class_ 3)] 3

/-- java/lang/Cloneable -/
def k3 : Class := { plain "java/lang/Cloneable" (some 0) with
  accessFlags := 1537
  interfaces := #[]
  cf := some (fileOf pool3 2 #[] #[] 1537 4 #[] #[])
  fields := #[]
  methods := #[]
  instanceTypes := #[]
  staticTypes := #[]
  resolved := Array.replicate 8 none
  statics := none }

def pool4 : Array CpInfo := pool [(1, u "java/io/Serializable"), (0, .class_ 1), (0, u "java/lang/Object"), (0, .class_ 3)] 3

/-- java/io/Serializable -/
def k4 : Class := { plain "java/io/Serializable" (some 0) with
  accessFlags := 1537
  interfaces := #[]
  cf := some (fileOf pool4 2 #[] #[] 1537 4 #[] #[])
  fields := #[]
  methods := #[]
  instanceTypes := #[]
  staticTypes := #[]
  resolved := Array.replicate 8 none
  statics := none }

/-- the primitive byte -/
def k5 : Class := { plain "byte" none with kind := .primitive 'B', accessFlags := 0x411 }
/-- [B -/
def k6 : Class := { plain "[B" (some 0) with kind := .array 5 .byte, interfaces := #[3, 4], accessFlags := 1041 }

/-- the primitive int -/
def k7 : Class := { plain "int" none with kind := .primitive 'I', accessFlags := 0x411 }
/-- [I -/
def k8 : Class := { plain "[I" (some 0) with kind := .array 7 .int, interfaces := #[3, 4], accessFlags := 1041 }

def heap : Heap := #[]
def classes : Array Class := #[k0, k1, k2, k3, k4, k5, k6, k7, k8]
def interned : List (Array UInt16 × Addr) := []
def slotsUsed : Nat := 0
def theMethod : MethodId := ⟨1, 6⟩
def args0 : Array Value := #[.long 2, .long 6, .int 7, .int 7]
def aboutOver (below : List Frame) : State where
  vm := { classes := classes, interned := interned.toArray }
  heap := heap
  slotsUsed := slotsUsed
  threads := #[{ frames := .invoking theMethod args0 :: below }]
def below0 : List Frame := [.native { method := ⟨0, 0⟩, args := #[] }]
def about1 : State := aboutOver below0
def p0 : Program := .bare "" "" ""
def e0 : Env := launch0.env 0 0 0
theorem w_frames : about1.frames = Frame.invoking theMethod args0 :: below0 := rfl
set_option maxRecDepth 65536 in
theorem w_args : argsFit about1.vm theMethod args0 = true := by decide +kernel
set_option maxRecDepth 65536 in
theorem w_heap : heapFits about1 = true := by decide +kernel
set_option maxRecDepth 65536 in
theorem w_runnable : about1.curStatus? = some .runnable := by decide +kernel
set_option maxRecDepth 65536 in
theorem w_alone : about1.alone = true := by decide +kernel
set_option maxRecDepth 65536 in
theorem w_named : about1.methodNamed? x = some theMethod := by decide +kernel
set_option maxRecDepth 65536 in
theorem w_hears : about1.hears theMethod below0 = true := by decide +kernel
set_option maxRecDepth 65536 in
theorem w_ripe : about1.ripe theMethod args0 below0 = true := by decide +kernel
theorem w_running : about1.status = .running := rfl
set_option maxRecDepth 65536 in
theorem w_room : about1.hasRoom e0.platform room_1 = true :=
  launch0.hasRoom_least _ room_1 (by decide +kernel) (by decide +kernel) (by decide +kernel) (by decide +kernel) (by decide +kernel) (by decide +kernel)
theorem allAtoms_all (ts : List Jvm.Cond) (a : Array Jvm.Value) (st : Jvm.State) : (allAtoms ts).before a st = ts.all (fun c => c.before a st) := by
  induction ts with
  | nil => rfl
  | cons c t ih =>
    show (Jvm.Cond.and c (allAtoms t)).before a st = _
    rw [Jvm.Cond.before_and, ih, List.all_cons]
def words1 : List Jvm.Cond := Jvm.Cond.code x code maxLocals ret :: tables_1
/-- a 'code' word, met by the world's own term for the bytes: nothing is compared byte by byte -/
theorem code_word {y : MethodName} {bytes : ByteArray} {mx : Nat} {rt : Option FieldType} {a : Array Value} {s : State} {m : MethodId} {meth : Method} {c : Code} (h1 : s.methodNamed? y = some m) (h2 : s.vm.method? m = some meth) (h3 : meth.code = some c) (h4 : c.code = bytes)
    (h5 : (c.maxLocals == mx && c.exceptionTable.isEmpty && decide (c.maxStack ≤ mostOperands) && decide (meth.sig.returnType = rt) && !meth.locks && decide (parseMethodDescriptor y.desc = some meth.sig)) = true) : (Jvm.Cond.code y bytes mx rt).before a s = true := by
  simp only [Bool.and_eq_true, beq_iff_eq, Bool.not_eq_true', decide_eq_true_eq] at h5
  obtain ⟨⟨⟨⟨⟨g1, g2⟩, g3⟩, g4⟩, g5⟩, g6⟩ := h5
  simp [Cond.before, Cond.holds, Cond.value, h1, h2, h3, h4, g1, g2, g3, g4, g5, g6]
def isCode : Jvm.Cond → Bool
  | .code _ _ _ _ => true
  | _ => false
theorem all_split {L : List Jvm.Cond} {P : Jvm.Cond → Bool} (h1 : L.all (fun c => isCode c || P c) = true) (h2 : ∀ c ∈ L.filter isCode, P c = true) : L.all P = true := by
  refine List.all_eq_true.mpr fun c hc => ?_
  have h := List.all_eq_true.mp h1 c hc
  rcases Bool.eq_false_or_eq_true (isCode c) with hi | hi
  · exact h2 c (List.mem_filter.mpr ⟨hc, hi⟩)
  · simpa [hi] using h
set_option maxRecDepth 65536 in
theorem w_c0 : (Jvm.Cond.code x code maxLocals ret).before args0 about1 = true := code_word (m := ⟨1, 6⟩) (meth := k1m6) (c := k1c6) (by decide +kernel) rfl rfl rfl (by decide +kernel)
set_option maxRecDepth 65536 in
theorem w_c1 : (Jvm.Cond.code ({ cls := "com/example/plain_tariff/plaintariff/ByteWordsDigitsPinLaw", name := "spread", desc := "(I)J" } : Jvm.MethodName) method_2_code (1 : Nat) (Option.some Jvm.ClassFile.FieldType.long)).before args0 about1 = true := code_word (m := ⟨1, 1⟩) (meth := k1m1) (c := k1c1) (by decide +kernel) rfl rfl rfl (by decide +kernel)
set_option maxRecDepth 65536 in
theorem w_c2 : (Jvm.Cond.code ({ cls := "com/example/plain_tariff/plaintariff/ByteWordsDigitsPinLaw", name := "digitWord", desc := "(J)J" } : Jvm.MethodName) method_4_code (2 : Nat) (Option.some Jvm.ClassFile.FieldType.long)).before args0 about1 = true := code_word (m := ⟨1, 3⟩) (meth := k1m3) (c := k1c3) (by decide +kernel) rfl rfl rfl (by decide +kernel)
set_option maxRecDepth 65536 in
theorem w_c3 : (Jvm.Cond.code ({ cls := "com/example/plain_tariff/plaintariff/ByteWordsDigitsPinLaw", name := "digitByte", desc := "(JI)J" } : Jvm.MethodName) method_3_code (4 : Nat) (Option.some Jvm.ClassFile.FieldType.long)).before args0 about1 = true := code_word (m := ⟨1, 2⟩) (meth := k1m2) (c := k1c2) (by decide +kernel) rfl rfl rfl (by decide +kernel)
set_option maxRecDepth 65536 in
theorem w_c4 : (Jvm.Cond.code ({ cls := "com/example/plain_tariff/plaintariff/ByteWordsDigitsPinLaw", name := "ok", desc := "(JII)Z" } : Jvm.MethodName) method_5_code (5 : Nat) (Option.some Jvm.ClassFile.FieldType.boolean)).before args0 about1 = true := code_word (m := ⟨1, 4⟩) (meth := k1m4) (c := k1c4) (by decide +kernel) rfl rfl rfl (by decide +kernel)
set_option maxRecDepth 65536 in
theorem w_c5 : (Jvm.Cond.code ({ cls := "com/example/plain_tariff/plaintariff/ByteWordsDigitsPinLaw", name := "val", desc := "(JII)J" } : Jvm.MethodName) method_6_code (5 : Nat) (Option.some Jvm.ClassFile.FieldType.long)).before args0 about1 = true := code_word (m := ⟨1, 5⟩) (meth := k1m5) (c := k1c5) (by decide +kernel) rfl rfl rfl (by decide +kernel)
set_option maxRecDepth 65536 in
theorem w_c6 : (Jvm.Cond.code ({ cls := "com/example/plain_tariff/plaintariff/ByteWords", name := "digits", desc := "(JJ)J" } : Jvm.MethodName) prog_6_method_11_code (9 : Nat) (Option.some Jvm.ClassFile.FieldType.long)).before args0 about1 = true := code_word (m := ⟨2, 1⟩) (meth := k2m1) (c := k2c1) (by decide +kernel) rfl rfl rfl (by decide +kernel)
def codes1 : List Jvm.Cond := [Jvm.Cond.code x code maxLocals ret, Jvm.Cond.code ({ cls := "com/example/plain_tariff/plaintariff/ByteWordsDigitsPinLaw", name := "spread", desc := "(I)J" } : Jvm.MethodName) method_2_code (1 : Nat) (Option.some Jvm.ClassFile.FieldType.long), Jvm.Cond.code ({ cls := "com/example/plain_tariff/plaintariff/ByteWordsDigitsPinLaw", name := "digitWord", desc := "(J)J" } : Jvm.MethodName) method_4_code (2 : Nat) (Option.some Jvm.ClassFile.FieldType.long), Jvm.Cond.code ({ cls := "com/example/plain_tariff/plaintariff/ByteWordsDigitsPinLaw", name := "digitByte", desc := "(JI)J" } : Jvm.MethodName) method_3_code (4 : Nat) (Option.some Jvm.ClassFile.FieldType.long), Jvm.Cond.code ({ cls := "com/example/plain_tariff/plaintariff/ByteWordsDigitsPinLaw", name := "ok", desc := "(JII)Z" } : Jvm.MethodName) method_5_code (5 : Nat) (Option.some Jvm.ClassFile.FieldType.boolean), Jvm.Cond.code ({ cls := "com/example/plain_tariff/plaintariff/ByteWordsDigitsPinLaw", name := "val", desc := "(JII)J" } : Jvm.MethodName) method_6_code (5 : Nat) (Option.some Jvm.ClassFile.FieldType.long), Jvm.Cond.code ({ cls := "com/example/plain_tariff/plaintariff/ByteWords", name := "digits", desc := "(JJ)J" } : Jvm.MethodName) prog_6_method_11_code (9 : Nat) (Option.some Jvm.ClassFile.FieldType.long)]
set_option maxRecDepth 65536 in
theorem codes_eq : words1.filter isCode = codes1 := rfl
theorem w_codes : ∀ c ∈ words1.filter isCode, c.before args0 about1 = true := by
  rw [codes_eq]
  intro c hc
  simp only [codes1, List.mem_cons, List.not_mem_nil, or_false] at hc
  rcases hc with rfl | rfl | rfl | rfl | rfl | rfl | rfl
  · exact w_c0
  · exact w_c1
  · exact w_c2
  · exact w_c3
  · exact w_c4
  · exact w_c5
  · exact w_c6
set_option maxRecDepth 65536 in
theorem w_t1 : (words1.take 24).all (fun c => isCode c || c.before args0 about1) = true := by decide +kernel
set_option maxRecDepth 65536 in
theorem w_t2 : (words1.drop 24).all (fun c => isCode c || c.before args0 about1) = true := by decide +kernel
theorem w_tables : (allAtoms (Jvm.Cond.code x code maxLocals ret :: tables_1)).before args0 about1 = true := by
  rw [allAtoms_all]
  show words1.all (fun c => c.before args0 about1) = true
  refine all_split ?_ w_codes
  rw [← List.take_append_drop 24 words1, List.all_append, w_t1, w_t2]
  rfl
set_option maxRecDepth 65536 in
theorem w_case : (Jvm.Cond.and given_1 narrow_1).before args0 about1 = true := by decide +kernel
theorem w_applies : (headSpec (Jvm.Cond.code x code maxLocals ret :: tables_1) room_1).applies x e0.platform about1 = true :=
  (Spec.applies_iff w_frames).mpr ⟨w_running, w_runnable, w_alone, w_named, w_hears, w_ripe, w_room, w_tables⟩
theorem atStart : AtStart classFile x code maxLocals ret World_1 tables_1 room_1 Calls_1 rest_1 Pre_1 launch0 p0 e0 about1 theMethod args0 below0 :=
  ⟨lists_1, trivial, launch0.admits_env _ _ _, launch0.least_env, fairChoices_fair.cas, fairChoices_fair.clock, w_frames, w_args, w_heap, w_applies, trivial, trivial, w_case⟩
end start1
theorem witness_1 : WitnessClaimed_1 := ⟨start1.p0, start1.e0, start1.about1, start1.theMethod, start1.args0, start1.below0, start1.atStart⟩
end Jvm.Pilot.@@N@@
