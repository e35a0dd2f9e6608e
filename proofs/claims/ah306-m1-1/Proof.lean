import JvmDerived
import JvmDerived.Pilot.@@N@@Statement
import JvmDerived.Pilot.@@N@@Code
set_option linter.unusedVariables false
set_option linter.unusedSimpArgs false
namespace Jvm.Pilot.@@N@@
open Jvm Jvm.ClassFile Sem Op Lib Jvm.Free Jvm.Stand Jvm.LawKit Jvm.RoadKit Bundle Jvm.Pilot.@@N@@.Jvm.D
/-! own layer: the run from a state ends in a return of which Q holds; one step leads from there to there -/
def own_ishl (x y : Int32) : Int32 := x <<< (y &&& 31)
def own_ishr (x y : Int32) : Int32 := x >>> (y &&& 31)
def own_iushr (x y : Int32) : Int32 := (x.toUInt32 >>> (y &&& 31).toUInt32).toInt32
def own_lshl (x : Int64) (y : Int32) : Int64 := x <<< (y &&& 0x3f).toInt64
def own_lshr (x : Int64) (y : Int32) : Int64 := x >>> (y &&& 0x3f).toInt64
def own_lushr (x : Int64) (y : Int32) : Int64 := (x.toUInt64 >>> (y &&& 0x3f).toInt64.toUInt64).toInt64
def own_i2b (x : Int32) : Int32 := x.toInt8.toInt32
def own_i2c (x : Int32) : Int32 := x.toUInt32.toUInt16.toUInt32.toInt32
def own_Fin (tb : Tables) (e : Env) (below : List Frame) (s : State) (Q : Option Value → Heap → List Loc → Prop) (k n : Nat) (t : State) : Prop :=
  ∃ s₂ o, Steps tb e below t s₂ ∧ s₂.status = .running ∧ Ended s₂ below o ∧ ∃ v L, o = .returned v ∧ Q v s₂.heap L ∧ FrameEnd s o s₂ L k n
theorem own_go {tb : Tables} {e : Env} {below : List Frame} {s : State} {Q : Option Value → Heap → List Loc → Prop} {k n : Nat} {t t' : State}
    (h : ∀ target, Steps tb e below t' target → Steps tb e below t target) (q : own_Fin tb e below s Q k n t') : own_Fin tb e below s Q k n t := by
  obtain ⟨s2, o, h1, h2⟩ := q
  exact ⟨s2, o, h _ h1, h2⟩
def own_QP (r : Option Value) (h0 : Heap) (n0 : Nat) (v : Option Value) (h : Heap) (L : List Loc) : Prop := v = r ∧ Fr n0 L ∧ h = h0
section OwnA
variable {p : Program} {l : Launch} {e : Env} {R : Room} {s : State} {m : MethodId} {args : Array Value} {below : List Frame} {meth : Method} {c : Code} {T : State} {locs : List Loc} {cells slots : Nat}
theorem own_mono (X : Stand p l e R s m args below meth c T locs cells slots) {k n : Nat} (hk : cells ≤ k) (hn : slots ≤ n) : Stand p l e R s m args below meth c T locs k n :=
  { X with same := X.same.mono hk hn }
theorem own_ret (X : Stand p l e R s m args below meth c T locs cells slots) (hx : p.tables.exec = Jvm.exec) (hlk : meth.locks = false) {pc : Nat} {Ls : Array Slot} {w : Value} {t : FieldType} {i : Instr} {rest : List Value} (hret : meth.sig.returnType = some t) (hn : narrow t w = w)
    (hi : (i = .ireturn ∧ (t = .int ∨ t = .boolean ∨ t = .byte ∨ t = .char ∨ t = .short) ∧ ∃ z, w = .int z) ∨ (i = .lreturn ∧ t = .long ∧ ∃ z, w = .long z) ∨ (i = .dreturn ∧ t = .double ∧ ∃ z, w = .double z) ∨ (i = .freturn ∧ t = .float ∧ ∃ z, w = .float z) ∨ (i = .areturn ∧ t.isReference = true ∧ w.isRef = true))
    (hd : decode c.code pc = .ok (i, 1)) {Q : Option Value → Heap → List Loc → Prop} {k n : Nat} (hk : cells ≤ k) (hs : slots ≤ n) (hQ : Q (some w) T.heap locs) :
    own_Fin p.tables e below s Q k n (T.setTop (mkF m pc Ls (w :: rest))) := by
  obtain ⟨fs, hr, hrun, hended, hW, hsame⟩ := X.leave (v := some w) (fun h => by rw [hret] at h; cases h) hlk
  exact ⟨_, _, retOut X hx hret hn hi hd hr, hrun, hended, _, _, rfl, hQ, ⟨_, rfl⟩, hW, hsame.mono hk hs⟩
theorem own_retV (X : Stand p l e R s m args below meth c T locs cells slots) (hx : p.tables.exec = Jvm.exec) (hlk : meth.locks = false) {pc : Nat} {Ls : Array Slot} (hret : meth.sig.returnType = none)
    (hd : decode c.code pc = .ok (.return_, 1)) {Q : Option Value → Heap → List Loc → Prop} {k n : Nat} (hk : cells ≤ k) (hs : slots ≤ n) (hQ : Q none T.heap locs) :
    own_Fin p.tables e below s Q k n (T.setTop (mkF m pc Ls [])) := by
  obtain ⟨fs, hr, hrun, hended, hW, hsame⟩ := X.leave (v := none) (fun _ => rfl) hlk
  exact ⟨_, _, X.returnOut hx hret hd hr, hrun, hended, _, _, rfl, hQ, ⟨_, rfl⟩, hW, hsame.mono hk hs⟩
end OwnA
theorem own_irem {tb : Tables} [Ours tb] {e : Env} {below : List Frame} {T target : State} {m : MethodId} {c : Code} {g : JFrame} (h : At T m c below) (hx : tb.exec = Jvm.exec) (hg : g.method = m) {x y : Int32} {rest : List Value} (hd : decode c.code g.pc = .ok (.irem, 1)) (hs : g.stack = .int y :: .int x :: rest) (hy : y ≠ 0)
    (hr : Steps tb e below (T.setTop { g with pc := g.pc + 1, stack := .int (x % y) :: rest }) target) : Steps tb e below (T.setTop g) target :=
  XS.irem h hx hg hd hs hy (by rw [irem_eq_mod x y]; exact hr)
theorem own_lrem {tb : Tables} [Ours tb] {e : Env} {below : List Frame} {T target : State} {m : MethodId} {c : Code} {g : JFrame} (h : At T m c below) (hx : tb.exec = Jvm.exec) (hg : g.method = m) {x y : Int64} {rest : List Value} (hd : decode c.code g.pc = .ok (.lrem, 1)) (hs : g.stack = .long y :: .long x :: rest) (hy : y ≠ 0)
    (hr : Steps tb e below (T.setTop { g with pc := g.pc + 1, stack := .long (x % y) :: rest }) target) : Steps tb e below (T.setTop g) target :=
  XS.lrem h hx hg hd hs hy (by rw [lrem_mod x y]; exact hr)
/-! arrays by a function of the place -/
def own_set {α : Type} (f : Nat → α) (j : Int32) (v : α) : Nat → α := fun i => if i = j.toNatClampNeg then v else f i
def own_Arf (Z : State) (h : Heap) (a : Addr) (ty : FieldType) (n : Int32) (f : Nat → Value) : Prop :=
  ∃ c : Cell, Arr Z h a c ty ∧ c.slots.size = n.toNatClampNeg ∧ ¬ n < 0 ∧ ∀ i, i < n.toNatClampNeg → c.slots[i]? = some (f i)
section OwnB
variable {Z : State} {h h' : Heap} {a b : Addr} {ty : FieldType} {n j : Int32} {f : Nat → Value} {ws : List Addr} {v : Value} {sl : Nat}
theorem own_Arf.lt (F : own_Arf Z h a ty n f) : a < h.size := by obtain ⟨c, A, -⟩ := F; exact A.lt
theorem own_Arf.ext (F : own_Arf Z h a ty n f) (E : Ext h h') : own_Arf Z h' a ty n f := by obtain ⟨c, A, r⟩ := F; exact ⟨c, A.ext E, r⟩
theorem own_Arf.other (F : own_Arf Z h b ty n f) (W : Wr h h' a sl v) (q : b ≠ a) : own_Arf Z h' b ty n f := by obtain ⟨c, A, r⟩ := F; exact ⟨c, A.other W q, r⟩
theorem own_Arf.keep (F : own_Arf Z h a ty n f) (K : Keep h h' ws) (q : a ∉ ws) : own_Arf Z h' a ty n f := by obtain ⟨c, A, r⟩ := F; exact ⟨c, ⟨K.2.1 a c A.1 q, A.2⟩, r⟩
theorem own_Arf.new {k : ClassId} (A : Arr Z h a (newA k ty n) ty) (q : ¬ n < 0) : own_Arf Z h a ty n (fun _ => defaultValue ty) :=
  ⟨_, A, sz_new _ _ _, q, fun i hi => by simp [newA, hi]⟩
theorem own_Arf.wr (F : own_Arf Z h a ty n f) (W : Wr h h' a j.toNatClampNeg v) : own_Arf Z h' a ty n (fun i => if i = j.toNatClampNeg then v else f i) := by
  obtain ⟨c, A, S, q, H⟩ := F
  refine ⟨_, A.same W, by rw [sz_set]; exact S, q, fun i hi => ?_⟩
  by_cases u : i = j.toNatClampNeg
  · subst u; simp [Cell.setSlot, S, hi]
  · simp only [if_neg u, Cell.setSlot]; rw [Array.getElem?_setIfInBounds_ne (Ne.symm u)]; exact H i hi
theorem own_Arf.fn {g : Nat → Value} (F : own_Arf Z h a ty n f) (q : ∀ i, i < n.toNatClampNeg → f i = g i) : own_Arf Z h a ty n g := by
  obtain ⟨c, A, S, q', H⟩ := F
  exact ⟨c, A, S, q', fun i hi => by rw [← q i hi]; exact H i hi⟩
variable {p : Program} {l : Launch} {e : Env} {R : Room} {s : State} {m : MethodId} {args : Array Value} {below : List Frame} {meth : Method} {c : Code} {T : State} {locs : List Loc} {cells slots : Nat} {g : JFrame} {rest : List Value}
theorem own_alen (X : Stand p l e R s m args below meth c T locs cells slots) (hx : p.tables.exec = Jvm.exec) (hZ : Z.Warmed39 s.vm) (eT : T.heap = h) (F : own_Arf Z h a ty n f) (hg : g.method = m) (hs : g.stack = .ref a :: rest) (hd : decode c.code g.pc = .ok (.arraylength, 1)) (target : State)
    (hr : Steps p.tables e below (T.setTop { g with pc := g.pc + 1, stack := .int n :: rest }) target) : Steps p.tables e below (T.setTop g) target := by
  obtain ⟨cl, A, S, q, H⟩ := F
  refine X.arraylength hx (by rw [eT]; exact A.1) (State.isArrayOf_alike hZ.alike A.2.1) hg hs hd _ ?_
  rw [len_of S q]; exact hr
theorem own_iaload (X : Stand p l e R s m args below meth c T locs cells slots) (hx : p.tables.exec = Jvm.exec) (hZ : Z.Warmed39 s.vm) (eT : T.heap = h) (F : own_Arf Z h a .int n f) (hj : ¬ j < 0 ∧ j < n) {x : Int32} (hv : f j.toNatClampNeg = .int x) (hg : g.method = m) (hs : g.stack = .int j :: .ref a :: rest) (hd : decode c.code g.pc = .ok (.iaload, 1)) (target : State)
    (hr : Steps p.tables e below (T.setTop { g with pc := g.pc + 1, stack := .int x :: rest }) target) : Steps p.tables e below (T.setTop g) target := by
  obtain ⟨cl, A, S, q, H⟩ := F
  have hin := inb_of S hj
  exact X.iaload hx (by rw [eT]; exact A.1) (State.isArrayOf_alike hZ.alike A.2.1) A.2.2 hin (by rw [H _ (by rw [← S]; omega), hv]) hg hs hd _ hr
theorem own_baload (X : Stand p l e R s m args below meth c T locs cells slots) (hx : p.tables.exec = Jvm.exec) (hZ : Z.Warmed39 s.vm) (eT : T.heap = h) (F : own_Arf Z h a .byte n f) (hj : ¬ j < 0 ∧ j < n) {x : Int32} (hv : f j.toNatClampNeg = .int x) (hg : g.method = m) (hs : g.stack = .int j :: .ref a :: rest) (hd : decode c.code g.pc = .ok (.baload, 1)) (target : State)
    (hr : Steps p.tables e below (T.setTop { g with pc := g.pc + 1, stack := .int x :: rest }) target) : Steps p.tables e below (T.setTop g) target := by
  obtain ⟨cl, A, S, q, H⟩ := F
  have hin := inb_of S hj
  exact X.baloadBytes hx (by rw [eT]; exact A.1) (State.isArrayOf_alike hZ.alike A.2.1) A.2.2 hin (by rw [H _ (by rw [← S]; omega), hv]) hg hs hd _ hr
theorem own_laload (X : Stand p l e R s m args below meth c T locs cells slots) (hx : p.tables.exec = Jvm.exec) (hZ : Z.Warmed39 s.vm) (eT : T.heap = h) (F : own_Arf Z h a .long n f) (hj : ¬ j < 0 ∧ j < n) {x : Int64} (hv : f j.toNatClampNeg = .long x) (hg : g.method = m) (hs : g.stack = .int j :: .ref a :: rest) (hd : decode c.code g.pc = .ok (.laload, 1)) (target : State)
    (hr : Steps p.tables e below (T.setTop { g with pc := g.pc + 1, stack := .long x :: rest }) target) : Steps p.tables e below (T.setTop g) target := by
  obtain ⟨cl, A, S, q, H⟩ := F
  have hin := inb_of S hj
  exact X.laload hx (by rw [eT]; exact A.1) (State.isArrayOf_alike hZ.alike A.2.1) A.2.2 hin (by rw [H _ (by rw [← S]; omega), hv]) hg hs hd _ hr
theorem own_stI (X : Stand p l e R s m args below meth c T locs cells slots) (hx : p.tables.exec = Jvm.exec) (hZ : Z.Warmed39 s.vm) (eT : T.heap = h) {q : Nat → Int32} (F : own_Arf Z h a .int n (fun i => .int (q i))) (hj : ¬ j < 0 ∧ j < n) {x : Int32} (hg : g.method = m) (hs : g.stack = .int x :: .int j :: .ref a :: rest) (hd : decode c.code g.pc = .ok (.iastore, 1)) :
    ∃ T' h', Stand p l e R s m args below meth c T' (locs ++ [⟨a, j.toNatClampNeg⟩]) cells slots ∧ T'.heap = h' ∧ Wr h h' a j.toNatClampNeg (.int x) ∧ own_Arf Z h' a .int n (fun i => .int (own_set q j x i)) ∧ ∀ target, Steps p.tables e below (T'.setTop { g with pc := g.pc + 1, stack := rest }) target → Steps p.tables e below (T.setTop g) target := by
  obtain ⟨cl, A, S, q1, H⟩ := F
  obtain ⟨T', h', X', e', W, st⟩ := stI X hx hZ eT A (inb_of S hj) hg hs hd
  refine ⟨T', h', X', e', W, (own_Arf.wr ⟨cl, A, S, q1, H⟩ W).fn fun i hi => ?_, st⟩
  simp only [own_set]; split <;> rfl
theorem own_stB (X : Stand p l e R s m args below meth c T locs cells slots) (hx : p.tables.exec = Jvm.exec) (hZ : Z.Warmed39 s.vm) (eT : T.heap = h) {q : Nat → Int32} (F : own_Arf Z h a .byte n (fun i => .int (q i))) (hj : ¬ j < 0 ∧ j < n) {x : Int32} (hg : g.method = m) (hs : g.stack = .int x :: .int j :: .ref a :: rest) (hd : decode c.code g.pc = .ok (.bastore, 1)) :
    ∃ T' h', Stand p l e R s m args below meth c T' (locs ++ [⟨a, j.toNatClampNeg⟩]) cells slots ∧ T'.heap = h' ∧ Wr h h' a j.toNatClampNeg (.int (own_i2b x)) ∧ own_Arf Z h' a .byte n (fun i => .int (own_set q j (own_i2b x) i)) ∧ ∀ target, Steps p.tables e below (T'.setTop { g with pc := g.pc + 1, stack := rest }) target → Steps p.tables e below (T.setTop g) target := by
  obtain ⟨cl, A, S, q1, H⟩ := F
  obtain ⟨T', h', X', e', W, st⟩ := stB X hx hZ eT A (inb_of S hj) hg hs hd
  refine ⟨T', h', X', e', W, (own_Arf.wr ⟨cl, A, S, q1, H⟩ W).fn fun i hi => ?_, st⟩
  simp only [own_set]; split <;> rfl
theorem own_stJ (X : Stand p l e R s m args below meth c T locs cells slots) (hx : p.tables.exec = Jvm.exec) (hZ : Z.Warmed39 s.vm) (eT : T.heap = h) {q : Nat → Int64} (F : own_Arf Z h a .long n (fun i => .long (q i))) (hj : ¬ j < 0 ∧ j < n) {x : Int64} (hg : g.method = m) (hs : g.stack = .long x :: .int j :: .ref a :: rest) (hd : decode c.code g.pc = .ok (.lastore, 1)) :
    ∃ T' h', Stand p l e R s m args below meth c T' (locs ++ [⟨a, j.toNatClampNeg⟩]) cells slots ∧ T'.heap = h' ∧ Wr h h' a j.toNatClampNeg (.long x) ∧ own_Arf Z h' a .long n (fun i => .long (own_set q j x i)) ∧ ∀ target, Steps p.tables e below (T'.setTop { g with pc := g.pc + 1, stack := rest }) target → Steps p.tables e below (T.setTop g) target := by
  obtain ⟨cl, A, S, q1, H⟩ := F
  obtain ⟨T', h', X', e', W, st⟩ := stJ X hx hZ eT A (inb_of S hj) hg hs hd
  refine ⟨T', h', X', e', W, (own_Arf.wr ⟨cl, A, S, q1, H⟩ W).fn fun i hi => ?_, st⟩
  simp only [own_set]; split <;> rfl
end OwnB
def own_QL (r : Option Value) (n0 : Nat) (v : Option Value) (h : Heap) (L : List Loc) : Prop := v = r ∧ Fr n0 L ∧ True
theorem own_ne_arf {Z : State} {h : Heap} {a b : Addr} {C : String} {ty : FieldType} {n : Int32} {f : Nat → Value} {a0 : Array Value} {k : Nat} (F : Exa Z h a C) (wi : (Cond.instantiable C k).before a0 Z = true) (G : own_Arf Z h b ty n f) : a ≠ b := by
  obtain ⟨c, A, -⟩ := G; exact ne_arr F wi A
def own_Two (a b : Slot) : Prop := (a = .unset ∧ b = .unset) ∨ ∃ x : Int64, a = .val (.long x) ∧ b = .second
def own_tl (p0 : Int32) : Int32 := if (65535 : Int32) < p0 then (3 : Int32) else if (255 : Int32) < p0 then (2 : Int32) else (1 : Int32)
def own_tb (p0 : Int32) : Nat → Int32 := if (65535 : Int32) < p0 then (own_set (own_set (own_set (fun _ => (0 : Int32)) (0 : Int32) (own_i2b (own_i2b (own_ishr p0 (16 : Int32))))) (1 : Int32) (own_i2b (own_i2b (own_ishr p0 (8 : Int32))))) (2 : Int32) (own_i2b (own_i2b (own_ishr p0 (0 : Int32))))) else if (255 : Int32) < p0 then (own_set (own_set (fun _ => (0 : Int32)) (0 : Int32) (own_i2b (own_i2b (own_ishr p0 (8 : Int32))))) (1 : Int32) (own_i2b (own_i2b (own_ishr p0 (0 : Int32))))) else (own_set (fun _ => (0 : Int32)) (0 : Int32) (own_i2b (own_i2b (own_ishr p0 (0 : Int32)))))
theorem d1_0 : decode prog_65_method_3_code 0 = .ok (.iload_n 0, 1) := by decide +kernel
theorem d1_1 : decode prog_65_method_3_code 1 = .ok (.ldc 22, 2) := by decide +kernel
theorem d1_3 : decode prog_65_method_3_code 3 = .ok (.if_icmp .le 7, 3) := by decide +kernel
theorem d1_6 : decode prog_65_method_3_code 6 = .ok (.iconst 3, 1) := by decide +kernel
theorem d1_7 : decode prog_65_method_3_code 7 = .ok (.goto 15, 3) := by decide +kernel
theorem d1_10 : decode prog_65_method_3_code 10 = .ok (.iload_n 0, 1) := by decide +kernel
theorem d1_11 : decode prog_65_method_3_code 11 = .ok (.sipush 255, 3) := by decide +kernel
theorem d1_14 : decode prog_65_method_3_code 14 = .ok (.if_icmp .le 7, 3) := by decide +kernel
theorem d1_17 : decode prog_65_method_3_code 17 = .ok (.iconst 2, 1) := by decide +kernel
theorem d1_18 : decode prog_65_method_3_code 18 = .ok (.goto 4, 3) := by decide +kernel
theorem d1_21 : decode prog_65_method_3_code 21 = .ok (.iconst 1, 1) := by decide +kernel
theorem d1_22 : decode prog_65_method_3_code 22 = .ok (.istore_n 1, 1) := by decide +kernel
theorem d1_23 : decode prog_65_method_3_code 23 = .ok (.iload_n 1, 1) := by decide +kernel
theorem d1_24 : decode prog_65_method_3_code 24 = .ok (.newarray .byte, 2) := by decide +kernel
theorem d1_26 : decode prog_65_method_3_code 26 = .ok (.astore_n 2, 1) := by decide +kernel
theorem d1_27 : decode prog_65_method_3_code 27 = .ok (.iconst 0, 1) := by decide +kernel
theorem d1_28 : decode prog_65_method_3_code 28 = .ok (.istore_n 3, 1) := by decide +kernel
theorem d1_29 : decode prog_65_method_3_code 29 = .ok (.iload_n 3, 1) := by decide +kernel
theorem d1_30 : decode prog_65_method_3_code 30 = .ok (.iload_n 1, 1) := by decide +kernel
theorem d1_31 : decode prog_65_method_3_code 31 = .ok (.if_icmp .ge 23, 3) := by decide +kernel
theorem d1_34 : decode prog_65_method_3_code 34 = .ok (.aload_n 2, 1) := by decide +kernel
theorem d1_35 : decode prog_65_method_3_code 35 = .ok (.iload_n 3, 1) := by decide +kernel
theorem d1_36 : decode prog_65_method_3_code 36 = .ok (.iload_n 0, 1) := by decide +kernel
theorem d1_37 : decode prog_65_method_3_code 37 = .ok (.bipush 8, 2) := by decide +kernel
theorem d1_39 : decode prog_65_method_3_code 39 = .ok (.iload_n 1, 1) := by decide +kernel
theorem d1_40 : decode prog_65_method_3_code 40 = .ok (.iconst 1, 1) := by decide +kernel
theorem d1_41 : decode prog_65_method_3_code 41 = .ok (.isub, 1) := by decide +kernel
theorem d1_42 : decode prog_65_method_3_code 42 = .ok (.iload_n 3, 1) := by decide +kernel
theorem d1_43 : decode prog_65_method_3_code 43 = .ok (.isub, 1) := by decide +kernel
theorem d1_44 : decode prog_65_method_3_code 44 = .ok (.imul, 1) := by decide +kernel
theorem d1_45 : decode prog_65_method_3_code 45 = .ok (.ishr, 1) := by decide +kernel
theorem d1_46 : decode prog_65_method_3_code 46 = .ok (.i2b, 1) := by decide +kernel
theorem d1_47 : decode prog_65_method_3_code 47 = .ok (.bastore, 1) := by decide +kernel
theorem d1_48 : decode prog_65_method_3_code 48 = .ok (.iinc 3 1, 3) := by decide +kernel
theorem d1_51 : decode prog_65_method_3_code 51 = .ok (.goto (-22), 3) := by decide +kernel
theorem d1_54 : decode prog_65_method_3_code 54 = .ok (.aload_n 2, 1) := by decide +kernel
theorem d1_55 : decode prog_65_method_3_code 55 = .ok (.areturn, 1) := by decide +kernel
theorem pn_1 : plainName "com/example/duanfu/duanfu/model/Tlv" = true := by first | (simp [plainName, overriddenIn]; done) | decide +kernel
theorem ef_1 (m : MethodId) (p0 : Int32) : entryFrame m #[(.int p0)] 4 = mkF m 0 #[.val (.int p0), .unset, .unset, .unset] [] := by first | (simp [entryFrame, mkF, argsToLocals, Value.category]; done) | rfl
def rm1_room : Room := { frames := 0, cells := 1, slots := 3, locals := 0 }
def Qrm1 (Z : State) (p0 : Int32) (h0 : Heap) (n0 : Nat) (v : Option Value) (h : Heap) (L : List Loc) : Prop := ∃ rb : Addr, v = some (.ref rb) ∧ Fr n0 L ∧ Keep h0 h [] ∧ h0.size ≤ rb ∧ own_Arf Z h rb .byte (own_tl p0) (fun i => .int ((own_tb p0) i))
set_option maxRecDepth 65536 in
set_option maxHeartbeats 40000000 in
theorem rm1 (l : Launch) (Z : State) (a0 : Array Value) (hw : ∀ d ∈ tables_1, d.before a0 Z = true) (ws : List Jvm.Cond) (p0 : Int32) (h0 : Heap) (n0 : Nat) (Z0 : n0 ≤ h0.size) :
    MetFree l (⟨"com/example/duanfu/duanfu/model/Tlv", "tagBytes", "(I)[B"⟩ : MethodName) (head1 (Jvm.Cond.code (⟨"com/example/duanfu/duanfu/model/Tlv", "tagBytes", "(I)[B"⟩ : MethodName) prog_65_method_3_code 4 (some (.array .byte)) :: ws) rm1_room) (fun a U => a = #[(.int p0)] ∧ Z.Warmed39 U.vm ∧ U.heap = h0) (fun _ _ _ _ _ => True) (fun _ U o U' => ∃ v L, o = .returned v ∧ Qrm1 Z p0 h0 n0 v U'.heap L ∧ FrameEnd U o U' L rm1_room.cells rm1_room.slots) := by
  refine MetFree.of_bodySF (plainFor_of_name pn_1) hisR ?_
  intro p e s m args below meth c s₁ Bd hml0 hP hK
  obtain ⟨rfl, hZ, hh⟩ := hP
  have hx := Bd.exec
  have hby := Bd.bytes
  have hml : c.maxLocals = 4 := hml0
  have hown : s.vm.findClass "com/example/duanfu/duanfu/model/Tlv" = some m.cls := findClass_of_methodNamed Bd.named
  have hnm := (name_of_methodNamed Bd.named Bd.method).1
  have hlk : meth.locks = false := BodyLoose.notSynchronized Bd
  have X0 : Stand p l e rm1_room s m #[(.int p0)] below meth c s₁ [] 0 0 := Stand.of_body Bd
  have e0 : s₁.heap = h0 := by rw [← hh, Bd.state]; rfl
  have N0 := Fr.nil n0
  show own_Fin p.tables e below s (Qrm1 Z p0 h0 n0) rm1_room.cells rm1_room.slots (s₁.setTop (entryFrame m #[(.int p0)] 4))
  rw [ef_1]
  show own_Fin _ _ _ _ _ _ _ (s₁.setTop (mkF m 0 #[.val (.int p0), .unset, .unset, .unset] []))
  have K0 := Keep.refl h0 []
  refine own_go (fun _ k => XS.iloadN X0.here hx rfl (hb hby d1_0) rfl k) ?_
  show own_Fin _ _ _ _ _ _ _ (s₁.setTop (mkF m 1 #[.val (.int p0), .unset, .unset, .unset] [(.int p0)]))
  refine own_go (fun _ k => X0.ldcInt hx hown (mvT hZ (hw _ (List.mem_of_getElem? (i := 5) rfl))) (g := (mkF m 1 #[.val (.int p0), .unset, .unset, .unset] [(.int p0)])) rfl (hb hby d1_1) _ k) ?_
  show own_Fin _ _ _ _ _ _ _ (s₁.setTop (mkF m 3 #[.val (.int p0), .unset, .unset, .unset] [(.int (65535 : Int32)), (.int p0)]))
  by_cases hc1 : (65535 : Int32) < p0
  · refine own_go (fun _ k => XS.icmpNo X0.here hx rfl (hb hby d1_3) rfl (tlt hc1).2.2.2 k) ?_
    show own_Fin _ _ _ _ _ _ _ (s₁.setTop (mkF m 6 #[.val (.int p0), .unset, .unset, .unset] []))
    refine own_go (fun _ k => XS.iconst X0.here hx rfl (hb hby d1_6) k) ?_
    show own_Fin _ _ _ _ _ _ _ (s₁.setTop (mkF m 7 #[.val (.int p0), .unset, .unset, .unset] [(.int (3 : Int32))]))
    refine own_go (fun _ k => XS.goto X0.here hx rfl (pc0 := 7) (pc' := 22) rfl (hb hby d1_7) (by decide) (by decide) k) ?_
    show own_Fin _ _ _ _ _ _ _ (s₁.setTop (mkF m 22 #[.val (.int p0), .unset, .unset, .unset] [(.int (3 : Int32))]))
    refine own_go (fun _ k => XS.istoreN X0.here hx rfl (hb hby d1_22) rfl (l' := #[.val (.int p0), .val (.int (3 : Int32)), .unset, .unset]) rfl k) ?_
    show own_Fin _ _ _ _ _ _ _ (s₁.setTop (mkF m 23 #[.val (.int p0), .val (.int (3 : Int32)), .unset, .unset] []))
    refine own_go (fun _ k => XS.iloadN X0.here hx rfl (hb hby d1_23) rfl k) ?_
    show own_Fin _ _ _ _ _ _ _ (s₁.setTop (mkF m 24 #[.val (.int p0), .val (.int (3 : Int32)), .unset, .unset] [(.int (3 : Int32))]))
    obtain ⟨T2, h2, k2, X2, e2, E2, A2, st2⟩ := newP X0 hx hZ (hw _ (List.mem_of_getElem? (i := 6) rfl)) e0 (g := (mkF m 24 #[.val (.int p0), .val (.int (3 : Int32)), .unset, .unset] [(.int (3 : Int32))])) rfl (hb hby d1_24) rfl (by decide) (cap := 3) (by decide) (by decide) (by decide) (by decide)
    obtain ⟨b2, g2⟩ : ∃ z, z = h0.size := ⟨_, rfl⟩
    rw [← g2] at A2 st2
    have ge_b2 : n0 ≤ b2 := Nat.le_trans Z0 (Nat.le_of_eq g2.symm)
    have sz_b2 : h0.size ≤ b2 := Nat.le_trans K0.1 (Nat.le_of_eq g2.symm)
    have K2 := K0.ext E2
    have Z2 : n0 ≤ h2.size := Nat.le_trans Z0 E2.1
    have A_b2_2 : own_Arf Z h2 b2 .byte (3 : Int32) (fun i => .int ((fun _ => (0 : Int32)) i)) := own_Arf.new A2 (by decide)
    refine own_go (fun tg k => st2 tg k) ?_
    show own_Fin _ _ _ _ _ _ _ (T2.setTop (mkF m 26 #[.val (.int p0), .val (.int (3 : Int32)), .unset, .unset] [(.ref b2)]))
    refine own_go (fun _ k => XS.astoreN X2.here hx rfl (hb hby d1_26) rfl rfl (l' := #[.val (.int p0), .val (.int (3 : Int32)), .val (.ref b2), .unset]) rfl k) ?_
    show own_Fin _ _ _ _ _ _ _ (T2.setTop (mkF m 27 #[.val (.int p0), .val (.int (3 : Int32)), .val (.ref b2), .unset] []))
    refine own_go (fun _ k => XS.iconst X2.here hx rfl (hb hby d1_27) k) ?_
    show own_Fin _ _ _ _ _ _ _ (T2.setTop (mkF m 28 #[.val (.int p0), .val (.int (3 : Int32)), .val (.ref b2), .unset] [(.int (0 : Int32))]))
    refine own_go (fun _ k => XS.istoreN X2.here hx rfl (hb hby d1_28) rfl (l' := #[.val (.int p0), .val (.int (3 : Int32)), .val (.ref b2), .val (.int (0 : Int32))]) rfl k) ?_
    show own_Fin _ _ _ _ _ _ _ (T2.setTop (mkF m 29 #[.val (.int p0), .val (.int (3 : Int32)), .val (.ref b2), .val (.int (0 : Int32))] []))
    refine own_go (fun _ k => XS.iloadN X2.here hx rfl (hb hby d1_29) rfl k) ?_
    show own_Fin _ _ _ _ _ _ _ (T2.setTop (mkF m 30 #[.val (.int p0), .val (.int (3 : Int32)), .val (.ref b2), .val (.int (0 : Int32))] [(.int (0 : Int32))]))
    refine own_go (fun _ k => XS.iloadN X2.here hx rfl (hb hby d1_30) rfl k) ?_
    show own_Fin _ _ _ _ _ _ _ (T2.setTop (mkF m 31 #[.val (.int p0), .val (.int (3 : Int32)), .val (.ref b2), .val (.int (0 : Int32))] [(.int (3 : Int32)), (.int (0 : Int32))]))
    refine own_go (fun _ k => XS.icmpNo X2.here hx rfl (hb hby d1_31) rfl (tlt (by decide)).2.1 k) ?_
    show own_Fin _ _ _ _ _ _ _ (T2.setTop (mkF m 34 #[.val (.int p0), .val (.int (3 : Int32)), .val (.ref b2), .val (.int (0 : Int32))] []))
    refine own_go (fun _ k => XS.aloadN X2.here hx rfl (hb hby d1_34) rfl rfl k) ?_
    show own_Fin _ _ _ _ _ _ _ (T2.setTop (mkF m 35 #[.val (.int p0), .val (.int (3 : Int32)), .val (.ref b2), .val (.int (0 : Int32))] [(.ref b2)]))
    refine own_go (fun _ k => XS.iloadN X2.here hx rfl (hb hby d1_35) rfl k) ?_
    show own_Fin _ _ _ _ _ _ _ (T2.setTop (mkF m 36 #[.val (.int p0), .val (.int (3 : Int32)), .val (.ref b2), .val (.int (0 : Int32))] [(.int (0 : Int32)), (.ref b2)]))
    refine own_go (fun _ k => XS.iloadN X2.here hx rfl (hb hby d1_36) rfl k) ?_
    show own_Fin _ _ _ _ _ _ _ (T2.setTop (mkF m 37 #[.val (.int p0), .val (.int (3 : Int32)), .val (.ref b2), .val (.int (0 : Int32))] [(.int p0), (.int (0 : Int32)), (.ref b2)]))
    refine own_go (fun _ k => XS.bipush X2.here hx rfl (hb hby d1_37) k) ?_
    show own_Fin _ _ _ _ _ _ _ (T2.setTop (mkF m 39 #[.val (.int p0), .val (.int (3 : Int32)), .val (.ref b2), .val (.int (0 : Int32))] [(.int (8 : Int32)), (.int p0), (.int (0 : Int32)), (.ref b2)]))
    refine own_go (fun _ k => XS.iloadN X2.here hx rfl (hb hby d1_39) rfl k) ?_
    show own_Fin _ _ _ _ _ _ _ (T2.setTop (mkF m 40 #[.val (.int p0), .val (.int (3 : Int32)), .val (.ref b2), .val (.int (0 : Int32))] [(.int (3 : Int32)), (.int (8 : Int32)), (.int p0), (.int (0 : Int32)), (.ref b2)]))
    refine own_go (fun _ k => XS.iconst X2.here hx rfl (hb hby d1_40) k) ?_
    show own_Fin _ _ _ _ _ _ _ (T2.setTop (mkF m 41 #[.val (.int p0), .val (.int (3 : Int32)), .val (.ref b2), .val (.int (0 : Int32))] [(.int (1 : Int32)), (.int (3 : Int32)), (.int (8 : Int32)), (.int p0), (.int (0 : Int32)), (.ref b2)]))
    refine own_go (fun _ k => XS.isub X2.here hx rfl (hb hby d1_41) rfl k) ?_
    show own_Fin _ _ _ _ _ _ _ (T2.setTop (mkF m 42 #[.val (.int p0), .val (.int (3 : Int32)), .val (.ref b2), .val (.int (0 : Int32))] [(.int (2 : Int32)), (.int (8 : Int32)), (.int p0), (.int (0 : Int32)), (.ref b2)]))
    refine own_go (fun _ k => XS.iloadN X2.here hx rfl (hb hby d1_42) rfl k) ?_
    show own_Fin _ _ _ _ _ _ _ (T2.setTop (mkF m 43 #[.val (.int p0), .val (.int (3 : Int32)), .val (.ref b2), .val (.int (0 : Int32))] [(.int (0 : Int32)), (.int (2 : Int32)), (.int (8 : Int32)), (.int p0), (.int (0 : Int32)), (.ref b2)]))
    refine own_go (fun _ k => XS.isub X2.here hx rfl (hb hby d1_43) rfl k) ?_
    show own_Fin _ _ _ _ _ _ _ (T2.setTop (mkF m 44 #[.val (.int p0), .val (.int (3 : Int32)), .val (.ref b2), .val (.int (0 : Int32))] [(.int (2 : Int32)), (.int (8 : Int32)), (.int p0), (.int (0 : Int32)), (.ref b2)]))
    refine own_go (fun _ k => XS.imul X2.here hx rfl (hb hby d1_44) rfl k) ?_
    show own_Fin _ _ _ _ _ _ _ (T2.setTop (mkF m 45 #[.val (.int p0), .val (.int (3 : Int32)), .val (.ref b2), .val (.int (0 : Int32))] [(.int (16 : Int32)), (.int p0), (.int (0 : Int32)), (.ref b2)]))
    refine own_go (fun _ k => XS.ishr X2.here hx rfl (hb hby d1_45) rfl k) ?_
    show own_Fin _ _ _ _ _ _ _ (T2.setTop (mkF m 46 #[.val (.int p0), .val (.int (3 : Int32)), .val (.ref b2), .val (.int (0 : Int32))] [(.int (own_ishr p0 (16 : Int32))), (.int (0 : Int32)), (.ref b2)]))
    refine own_go (fun _ k => XS.i2b X2.here hx rfl (hb hby d1_46) rfl k) ?_
    show own_Fin _ _ _ _ _ _ _ (T2.setTop (mkF m 47 #[.val (.int p0), .val (.int (3 : Int32)), .val (.ref b2), .val (.int (0 : Int32))] [(.int (own_i2b (own_ishr p0 (16 : Int32)))), (.int (0 : Int32)), (.ref b2)]))
    obtain ⟨T3, h3, X3, e3, W3, A_b2_3, st3⟩ := own_stB X2 hx hZ e2 A_b2_2 (j := (0 : Int32)) ⟨by decide, by decide⟩ (g := (mkF m 47 #[.val (.int p0), .val (.int (3 : Int32)), .val (.ref b2), .val (.int (0 : Int32))] [(.int (own_i2b (own_ishr p0 (16 : Int32)))), (.int (0 : Int32)), (.ref b2)])) rfl rfl (hb hby d1_47)
    have K3 := K2.wr W3 (Or.inr sz_b2)
    have N3 := Fr.snoc X3 N0 ge_b2
    have Z3 : n0 ≤ h3.size := Nat.le_trans Z2 (Keep.of_wr W3).1
    obtain ⟨f3, hf3⟩ : ∃ z, z = (own_set (fun _ => (0 : Int32)) (0 : Int32) (own_i2b (own_i2b (own_ishr p0 (16 : Int32))))) := ⟨_, rfl⟩
    rw [← hf3] at A_b2_3
    refine own_go (fun tg k => st3 tg k) ?_
    show own_Fin _ _ _ _ _ _ _ (T3.setTop (mkF m 48 #[.val (.int p0), .val (.int (3 : Int32)), .val (.ref b2), .val (.int (0 : Int32))] []))
    refine own_go (fun _ k => XS.iinc X3.here hx rfl (hb hby d1_48) rfl (l' := #[.val (.int p0), .val (.int (3 : Int32)), .val (.ref b2), .val (.int (1 : Int32))]) rfl k) ?_
    show own_Fin _ _ _ _ _ _ _ (T3.setTop (mkF m 51 #[.val (.int p0), .val (.int (3 : Int32)), .val (.ref b2), .val (.int (1 : Int32))] []))
    refine own_go (fun _ k => XS.goto X3.here hx rfl (pc0 := 51) (pc' := 29) rfl (hb hby d1_51) (by decide) (by decide) k) ?_
    show own_Fin _ _ _ _ _ _ _ (T3.setTop (mkF m 29 #[.val (.int p0), .val (.int (3 : Int32)), .val (.ref b2), .val (.int (1 : Int32))] []))
    refine own_go (fun _ k => XS.iloadN X3.here hx rfl (hb hby d1_29) rfl k) ?_
    show own_Fin _ _ _ _ _ _ _ (T3.setTop (mkF m 30 #[.val (.int p0), .val (.int (3 : Int32)), .val (.ref b2), .val (.int (1 : Int32))] [(.int (1 : Int32))]))
    refine own_go (fun _ k => XS.iloadN X3.here hx rfl (hb hby d1_30) rfl k) ?_
    show own_Fin _ _ _ _ _ _ _ (T3.setTop (mkF m 31 #[.val (.int p0), .val (.int (3 : Int32)), .val (.ref b2), .val (.int (1 : Int32))] [(.int (3 : Int32)), (.int (1 : Int32))]))
    refine own_go (fun _ k => XS.icmpNo X3.here hx rfl (hb hby d1_31) rfl (tlt (by decide)).2.1 k) ?_
    show own_Fin _ _ _ _ _ _ _ (T3.setTop (mkF m 34 #[.val (.int p0), .val (.int (3 : Int32)), .val (.ref b2), .val (.int (1 : Int32))] []))
    refine own_go (fun _ k => XS.aloadN X3.here hx rfl (hb hby d1_34) rfl rfl k) ?_
    show own_Fin _ _ _ _ _ _ _ (T3.setTop (mkF m 35 #[.val (.int p0), .val (.int (3 : Int32)), .val (.ref b2), .val (.int (1 : Int32))] [(.ref b2)]))
    refine own_go (fun _ k => XS.iloadN X3.here hx rfl (hb hby d1_35) rfl k) ?_
    show own_Fin _ _ _ _ _ _ _ (T3.setTop (mkF m 36 #[.val (.int p0), .val (.int (3 : Int32)), .val (.ref b2), .val (.int (1 : Int32))] [(.int (1 : Int32)), (.ref b2)]))
    refine own_go (fun _ k => XS.iloadN X3.here hx rfl (hb hby d1_36) rfl k) ?_
    show own_Fin _ _ _ _ _ _ _ (T3.setTop (mkF m 37 #[.val (.int p0), .val (.int (3 : Int32)), .val (.ref b2), .val (.int (1 : Int32))] [(.int p0), (.int (1 : Int32)), (.ref b2)]))
    refine own_go (fun _ k => XS.bipush X3.here hx rfl (hb hby d1_37) k) ?_
    show own_Fin _ _ _ _ _ _ _ (T3.setTop (mkF m 39 #[.val (.int p0), .val (.int (3 : Int32)), .val (.ref b2), .val (.int (1 : Int32))] [(.int (8 : Int32)), (.int p0), (.int (1 : Int32)), (.ref b2)]))
    refine own_go (fun _ k => XS.iloadN X3.here hx rfl (hb hby d1_39) rfl k) ?_
    show own_Fin _ _ _ _ _ _ _ (T3.setTop (mkF m 40 #[.val (.int p0), .val (.int (3 : Int32)), .val (.ref b2), .val (.int (1 : Int32))] [(.int (3 : Int32)), (.int (8 : Int32)), (.int p0), (.int (1 : Int32)), (.ref b2)]))
    refine own_go (fun _ k => XS.iconst X3.here hx rfl (hb hby d1_40) k) ?_
    show own_Fin _ _ _ _ _ _ _ (T3.setTop (mkF m 41 #[.val (.int p0), .val (.int (3 : Int32)), .val (.ref b2), .val (.int (1 : Int32))] [(.int (1 : Int32)), (.int (3 : Int32)), (.int (8 : Int32)), (.int p0), (.int (1 : Int32)), (.ref b2)]))
    refine own_go (fun _ k => XS.isub X3.here hx rfl (hb hby d1_41) rfl k) ?_
    show own_Fin _ _ _ _ _ _ _ (T3.setTop (mkF m 42 #[.val (.int p0), .val (.int (3 : Int32)), .val (.ref b2), .val (.int (1 : Int32))] [(.int (2 : Int32)), (.int (8 : Int32)), (.int p0), (.int (1 : Int32)), (.ref b2)]))
    refine own_go (fun _ k => XS.iloadN X3.here hx rfl (hb hby d1_42) rfl k) ?_
    show own_Fin _ _ _ _ _ _ _ (T3.setTop (mkF m 43 #[.val (.int p0), .val (.int (3 : Int32)), .val (.ref b2), .val (.int (1 : Int32))] [(.int (1 : Int32)), (.int (2 : Int32)), (.int (8 : Int32)), (.int p0), (.int (1 : Int32)), (.ref b2)]))
    refine own_go (fun _ k => XS.isub X3.here hx rfl (hb hby d1_43) rfl k) ?_
    show own_Fin _ _ _ _ _ _ _ (T3.setTop (mkF m 44 #[.val (.int p0), .val (.int (3 : Int32)), .val (.ref b2), .val (.int (1 : Int32))] [(.int (1 : Int32)), (.int (8 : Int32)), (.int p0), (.int (1 : Int32)), (.ref b2)]))
    refine own_go (fun _ k => XS.imul X3.here hx rfl (hb hby d1_44) rfl k) ?_
    show own_Fin _ _ _ _ _ _ _ (T3.setTop (mkF m 45 #[.val (.int p0), .val (.int (3 : Int32)), .val (.ref b2), .val (.int (1 : Int32))] [(.int (8 : Int32)), (.int p0), (.int (1 : Int32)), (.ref b2)]))
    refine own_go (fun _ k => XS.ishr X3.here hx rfl (hb hby d1_45) rfl k) ?_
    show own_Fin _ _ _ _ _ _ _ (T3.setTop (mkF m 46 #[.val (.int p0), .val (.int (3 : Int32)), .val (.ref b2), .val (.int (1 : Int32))] [(.int (own_ishr p0 (8 : Int32))), (.int (1 : Int32)), (.ref b2)]))
    refine own_go (fun _ k => XS.i2b X3.here hx rfl (hb hby d1_46) rfl k) ?_
    show own_Fin _ _ _ _ _ _ _ (T3.setTop (mkF m 47 #[.val (.int p0), .val (.int (3 : Int32)), .val (.ref b2), .val (.int (1 : Int32))] [(.int (own_i2b (own_ishr p0 (8 : Int32)))), (.int (1 : Int32)), (.ref b2)]))
    obtain ⟨T4, h4, X4, e4, W4, A_b2_4, st4⟩ := own_stB X3 hx hZ e3 A_b2_3 (j := (1 : Int32)) ⟨by decide, by decide⟩ (g := (mkF m 47 #[.val (.int p0), .val (.int (3 : Int32)), .val (.ref b2), .val (.int (1 : Int32))] [(.int (own_i2b (own_ishr p0 (8 : Int32)))), (.int (1 : Int32)), (.ref b2)])) rfl rfl (hb hby d1_47)
    have K4 := K3.wr W4 (Or.inr sz_b2)
    have N4 := Fr.snoc X4 N3 ge_b2
    have Z4 : n0 ≤ h4.size := Nat.le_trans Z3 (Keep.of_wr W4).1
    obtain ⟨f4, hf4⟩ : ∃ z, z = (own_set f3 (1 : Int32) (own_i2b (own_i2b (own_ishr p0 (8 : Int32))))) := ⟨_, rfl⟩
    rw [← hf4] at A_b2_4
    refine own_go (fun tg k => st4 tg k) ?_
    show own_Fin _ _ _ _ _ _ _ (T4.setTop (mkF m 48 #[.val (.int p0), .val (.int (3 : Int32)), .val (.ref b2), .val (.int (1 : Int32))] []))
    refine own_go (fun _ k => XS.iinc X4.here hx rfl (hb hby d1_48) rfl (l' := #[.val (.int p0), .val (.int (3 : Int32)), .val (.ref b2), .val (.int (2 : Int32))]) rfl k) ?_
    show own_Fin _ _ _ _ _ _ _ (T4.setTop (mkF m 51 #[.val (.int p0), .val (.int (3 : Int32)), .val (.ref b2), .val (.int (2 : Int32))] []))
    refine own_go (fun _ k => XS.goto X4.here hx rfl (pc0 := 51) (pc' := 29) rfl (hb hby d1_51) (by decide) (by decide) k) ?_
    show own_Fin _ _ _ _ _ _ _ (T4.setTop (mkF m 29 #[.val (.int p0), .val (.int (3 : Int32)), .val (.ref b2), .val (.int (2 : Int32))] []))
    refine own_go (fun _ k => XS.iloadN X4.here hx rfl (hb hby d1_29) rfl k) ?_
    show own_Fin _ _ _ _ _ _ _ (T4.setTop (mkF m 30 #[.val (.int p0), .val (.int (3 : Int32)), .val (.ref b2), .val (.int (2 : Int32))] [(.int (2 : Int32))]))
    refine own_go (fun _ k => XS.iloadN X4.here hx rfl (hb hby d1_30) rfl k) ?_
    show own_Fin _ _ _ _ _ _ _ (T4.setTop (mkF m 31 #[.val (.int p0), .val (.int (3 : Int32)), .val (.ref b2), .val (.int (2 : Int32))] [(.int (3 : Int32)), (.int (2 : Int32))]))
    refine own_go (fun _ k => XS.icmpNo X4.here hx rfl (hb hby d1_31) rfl (tlt (by decide)).2.1 k) ?_
    show own_Fin _ _ _ _ _ _ _ (T4.setTop (mkF m 34 #[.val (.int p0), .val (.int (3 : Int32)), .val (.ref b2), .val (.int (2 : Int32))] []))
    refine own_go (fun _ k => XS.aloadN X4.here hx rfl (hb hby d1_34) rfl rfl k) ?_
    show own_Fin _ _ _ _ _ _ _ (T4.setTop (mkF m 35 #[.val (.int p0), .val (.int (3 : Int32)), .val (.ref b2), .val (.int (2 : Int32))] [(.ref b2)]))
    refine own_go (fun _ k => XS.iloadN X4.here hx rfl (hb hby d1_35) rfl k) ?_
    show own_Fin _ _ _ _ _ _ _ (T4.setTop (mkF m 36 #[.val (.int p0), .val (.int (3 : Int32)), .val (.ref b2), .val (.int (2 : Int32))] [(.int (2 : Int32)), (.ref b2)]))
    refine own_go (fun _ k => XS.iloadN X4.here hx rfl (hb hby d1_36) rfl k) ?_
    show own_Fin _ _ _ _ _ _ _ (T4.setTop (mkF m 37 #[.val (.int p0), .val (.int (3 : Int32)), .val (.ref b2), .val (.int (2 : Int32))] [(.int p0), (.int (2 : Int32)), (.ref b2)]))
    refine own_go (fun _ k => XS.bipush X4.here hx rfl (hb hby d1_37) k) ?_
    show own_Fin _ _ _ _ _ _ _ (T4.setTop (mkF m 39 #[.val (.int p0), .val (.int (3 : Int32)), .val (.ref b2), .val (.int (2 : Int32))] [(.int (8 : Int32)), (.int p0), (.int (2 : Int32)), (.ref b2)]))
    refine own_go (fun _ k => XS.iloadN X4.here hx rfl (hb hby d1_39) rfl k) ?_
    show own_Fin _ _ _ _ _ _ _ (T4.setTop (mkF m 40 #[.val (.int p0), .val (.int (3 : Int32)), .val (.ref b2), .val (.int (2 : Int32))] [(.int (3 : Int32)), (.int (8 : Int32)), (.int p0), (.int (2 : Int32)), (.ref b2)]))
    refine own_go (fun _ k => XS.iconst X4.here hx rfl (hb hby d1_40) k) ?_
    show own_Fin _ _ _ _ _ _ _ (T4.setTop (mkF m 41 #[.val (.int p0), .val (.int (3 : Int32)), .val (.ref b2), .val (.int (2 : Int32))] [(.int (1 : Int32)), (.int (3 : Int32)), (.int (8 : Int32)), (.int p0), (.int (2 : Int32)), (.ref b2)]))
    refine own_go (fun _ k => XS.isub X4.here hx rfl (hb hby d1_41) rfl k) ?_
    show own_Fin _ _ _ _ _ _ _ (T4.setTop (mkF m 42 #[.val (.int p0), .val (.int (3 : Int32)), .val (.ref b2), .val (.int (2 : Int32))] [(.int (2 : Int32)), (.int (8 : Int32)), (.int p0), (.int (2 : Int32)), (.ref b2)]))
    refine own_go (fun _ k => XS.iloadN X4.here hx rfl (hb hby d1_42) rfl k) ?_
    show own_Fin _ _ _ _ _ _ _ (T4.setTop (mkF m 43 #[.val (.int p0), .val (.int (3 : Int32)), .val (.ref b2), .val (.int (2 : Int32))] [(.int (2 : Int32)), (.int (2 : Int32)), (.int (8 : Int32)), (.int p0), (.int (2 : Int32)), (.ref b2)]))
    refine own_go (fun _ k => XS.isub X4.here hx rfl (hb hby d1_43) rfl k) ?_
    show own_Fin _ _ _ _ _ _ _ (T4.setTop (mkF m 44 #[.val (.int p0), .val (.int (3 : Int32)), .val (.ref b2), .val (.int (2 : Int32))] [(.int (0 : Int32)), (.int (8 : Int32)), (.int p0), (.int (2 : Int32)), (.ref b2)]))
    refine own_go (fun _ k => XS.imul X4.here hx rfl (hb hby d1_44) rfl k) ?_
    show own_Fin _ _ _ _ _ _ _ (T4.setTop (mkF m 45 #[.val (.int p0), .val (.int (3 : Int32)), .val (.ref b2), .val (.int (2 : Int32))] [(.int (0 : Int32)), (.int p0), (.int (2 : Int32)), (.ref b2)]))
    refine own_go (fun _ k => XS.ishr X4.here hx rfl (hb hby d1_45) rfl k) ?_
    show own_Fin _ _ _ _ _ _ _ (T4.setTop (mkF m 46 #[.val (.int p0), .val (.int (3 : Int32)), .val (.ref b2), .val (.int (2 : Int32))] [(.int (own_ishr p0 (0 : Int32))), (.int (2 : Int32)), (.ref b2)]))
    refine own_go (fun _ k => XS.i2b X4.here hx rfl (hb hby d1_46) rfl k) ?_
    show own_Fin _ _ _ _ _ _ _ (T4.setTop (mkF m 47 #[.val (.int p0), .val (.int (3 : Int32)), .val (.ref b2), .val (.int (2 : Int32))] [(.int (own_i2b (own_ishr p0 (0 : Int32)))), (.int (2 : Int32)), (.ref b2)]))
    obtain ⟨T5, h5, X5, e5, W5, A_b2_5, st5⟩ := own_stB X4 hx hZ e4 A_b2_4 (j := (2 : Int32)) ⟨by decide, by decide⟩ (g := (mkF m 47 #[.val (.int p0), .val (.int (3 : Int32)), .val (.ref b2), .val (.int (2 : Int32))] [(.int (own_i2b (own_ishr p0 (0 : Int32)))), (.int (2 : Int32)), (.ref b2)])) rfl rfl (hb hby d1_47)
    have K5 := K4.wr W5 (Or.inr sz_b2)
    have N5 := Fr.snoc X5 N4 ge_b2
    have Z5 : n0 ≤ h5.size := Nat.le_trans Z4 (Keep.of_wr W5).1
    obtain ⟨f5, hf5⟩ : ∃ z, z = (own_set f4 (2 : Int32) (own_i2b (own_i2b (own_ishr p0 (0 : Int32))))) := ⟨_, rfl⟩
    rw [← hf5] at A_b2_5
    refine own_go (fun tg k => st5 tg k) ?_
    show own_Fin _ _ _ _ _ _ _ (T5.setTop (mkF m 48 #[.val (.int p0), .val (.int (3 : Int32)), .val (.ref b2), .val (.int (2 : Int32))] []))
    refine own_go (fun _ k => XS.iinc X5.here hx rfl (hb hby d1_48) rfl (l' := #[.val (.int p0), .val (.int (3 : Int32)), .val (.ref b2), .val (.int (3 : Int32))]) rfl k) ?_
    show own_Fin _ _ _ _ _ _ _ (T5.setTop (mkF m 51 #[.val (.int p0), .val (.int (3 : Int32)), .val (.ref b2), .val (.int (3 : Int32))] []))
    refine own_go (fun _ k => XS.goto X5.here hx rfl (pc0 := 51) (pc' := 29) rfl (hb hby d1_51) (by decide) (by decide) k) ?_
    show own_Fin _ _ _ _ _ _ _ (T5.setTop (mkF m 29 #[.val (.int p0), .val (.int (3 : Int32)), .val (.ref b2), .val (.int (3 : Int32))] []))
    refine own_go (fun _ k => XS.iloadN X5.here hx rfl (hb hby d1_29) rfl k) ?_
    show own_Fin _ _ _ _ _ _ _ (T5.setTop (mkF m 30 #[.val (.int p0), .val (.int (3 : Int32)), .val (.ref b2), .val (.int (3 : Int32))] [(.int (3 : Int32))]))
    refine own_go (fun _ k => XS.iloadN X5.here hx rfl (hb hby d1_30) rfl k) ?_
    show own_Fin _ _ _ _ _ _ _ (T5.setTop (mkF m 31 #[.val (.int p0), .val (.int (3 : Int32)), .val (.ref b2), .val (.int (3 : Int32))] [(.int (3 : Int32)), (.int (3 : Int32))]))
    refine own_go (fun _ k => XS.icmpYes X5.here hx rfl (pc0 := 31) (pc' := 54) rfl (hb hby d1_31) rfl (flt (by decide)).2.1 (by decide) (by decide) k) ?_
    show own_Fin _ _ _ _ _ _ _ (T5.setTop (mkF m 54 #[.val (.int p0), .val (.int (3 : Int32)), .val (.ref b2), .val (.int (3 : Int32))] []))
    refine own_go (fun _ k => XS.aloadN X5.here hx rfl (hb hby d1_54) rfl rfl k) ?_
    show own_Fin _ _ _ _ _ _ _ (T5.setTop (mkF m 55 #[.val (.int p0), .val (.int (3 : Int32)), .val (.ref b2), .val (.int (3 : Int32))] [(.ref b2)]))
    refine own_ret X5 hx hlk Bd.returns rfl (Or.inr (Or.inr (Or.inr (Or.inr ⟨rfl, rfl, rfl⟩)))) (hb hby d1_55) (Nat.le_of_ble_eq_true rfl) (Nat.le_of_ble_eq_true rfl) ?_
    try subst hf5
    try subst hf4
    try subst hf3
    rw [e5]
    refine ⟨b2, ?_, N5, K5, sz_b2, ?_⟩
    · first | (simp only [if_pos hc1]; done) | (simp only [if_pos hc1]; rfl) | rfl
    · first | (exact A_b2_5) | (simp only [own_tl, own_tb, if_pos hc1]; exact A_b2_5)
  · refine own_go (fun _ k => XS.icmpYes X0.here hx rfl (pc0 := 3) (pc' := 10) rfl (hb hby d1_3) rfl (flt hc1).2.2.2 (by decide) (by decide) k) ?_
    show own_Fin _ _ _ _ _ _ _ (s₁.setTop (mkF m 10 #[.val (.int p0), .unset, .unset, .unset] []))
    refine own_go (fun _ k => XS.iloadN X0.here hx rfl (hb hby d1_10) rfl k) ?_
    show own_Fin _ _ _ _ _ _ _ (s₁.setTop (mkF m 11 #[.val (.int p0), .unset, .unset, .unset] [(.int p0)]))
    refine own_go (fun _ k => XS.sipush X0.here hx rfl (hb hby d1_11) k) ?_
    show own_Fin _ _ _ _ _ _ _ (s₁.setTop (mkF m 14 #[.val (.int p0), .unset, .unset, .unset] [(.int (255 : Int32)), (.int p0)]))
    by_cases hc6 : (255 : Int32) < p0
    · refine own_go (fun _ k => XS.icmpNo X0.here hx rfl (hb hby d1_14) rfl (tlt hc6).2.2.2 k) ?_
      show own_Fin _ _ _ _ _ _ _ (s₁.setTop (mkF m 17 #[.val (.int p0), .unset, .unset, .unset] []))
      refine own_go (fun _ k => XS.iconst X0.here hx rfl (hb hby d1_17) k) ?_
      show own_Fin _ _ _ _ _ _ _ (s₁.setTop (mkF m 18 #[.val (.int p0), .unset, .unset, .unset] [(.int (2 : Int32))]))
      refine own_go (fun _ k => XS.goto X0.here hx rfl (pc0 := 18) (pc' := 22) rfl (hb hby d1_18) (by decide) (by decide) k) ?_
      show own_Fin _ _ _ _ _ _ _ (s₁.setTop (mkF m 22 #[.val (.int p0), .unset, .unset, .unset] [(.int (2 : Int32))]))
      refine own_go (fun _ k => XS.istoreN X0.here hx rfl (hb hby d1_22) rfl (l' := #[.val (.int p0), .val (.int (2 : Int32)), .unset, .unset]) rfl k) ?_
      show own_Fin _ _ _ _ _ _ _ (s₁.setTop (mkF m 23 #[.val (.int p0), .val (.int (2 : Int32)), .unset, .unset] []))
      refine own_go (fun _ k => XS.iloadN X0.here hx rfl (hb hby d1_23) rfl k) ?_
      show own_Fin _ _ _ _ _ _ _ (s₁.setTop (mkF m 24 #[.val (.int p0), .val (.int (2 : Int32)), .unset, .unset] [(.int (2 : Int32))]))
      obtain ⟨T7, h7, k7, X7, e7, E7, A7, st7⟩ := newP X0 hx hZ (hw _ (List.mem_of_getElem? (i := 6) rfl)) e0 (g := (mkF m 24 #[.val (.int p0), .val (.int (2 : Int32)), .unset, .unset] [(.int (2 : Int32))])) rfl (hb hby d1_24) rfl (by decide) (cap := 2) (by decide) (by decide) (by decide) (by decide)
      obtain ⟨b7, g7⟩ : ∃ z, z = h0.size := ⟨_, rfl⟩
      rw [← g7] at A7 st7
      have ge_b7 : n0 ≤ b7 := Nat.le_trans Z0 (Nat.le_of_eq g7.symm)
      have sz_b7 : h0.size ≤ b7 := Nat.le_trans K0.1 (Nat.le_of_eq g7.symm)
      have K7 := K0.ext E7
      have Z7 : n0 ≤ h7.size := Nat.le_trans Z0 E7.1
      have A_b7_7 : own_Arf Z h7 b7 .byte (2 : Int32) (fun i => .int ((fun _ => (0 : Int32)) i)) := own_Arf.new A7 (by decide)
      refine own_go (fun tg k => st7 tg k) ?_
      show own_Fin _ _ _ _ _ _ _ (T7.setTop (mkF m 26 #[.val (.int p0), .val (.int (2 : Int32)), .unset, .unset] [(.ref b7)]))
      refine own_go (fun _ k => XS.astoreN X7.here hx rfl (hb hby d1_26) rfl rfl (l' := #[.val (.int p0), .val (.int (2 : Int32)), .val (.ref b7), .unset]) rfl k) ?_
      show own_Fin _ _ _ _ _ _ _ (T7.setTop (mkF m 27 #[.val (.int p0), .val (.int (2 : Int32)), .val (.ref b7), .unset] []))
      refine own_go (fun _ k => XS.iconst X7.here hx rfl (hb hby d1_27) k) ?_
      show own_Fin _ _ _ _ _ _ _ (T7.setTop (mkF m 28 #[.val (.int p0), .val (.int (2 : Int32)), .val (.ref b7), .unset] [(.int (0 : Int32))]))
      refine own_go (fun _ k => XS.istoreN X7.here hx rfl (hb hby d1_28) rfl (l' := #[.val (.int p0), .val (.int (2 : Int32)), .val (.ref b7), .val (.int (0 : Int32))]) rfl k) ?_
      show own_Fin _ _ _ _ _ _ _ (T7.setTop (mkF m 29 #[.val (.int p0), .val (.int (2 : Int32)), .val (.ref b7), .val (.int (0 : Int32))] []))
      refine own_go (fun _ k => XS.iloadN X7.here hx rfl (hb hby d1_29) rfl k) ?_
      show own_Fin _ _ _ _ _ _ _ (T7.setTop (mkF m 30 #[.val (.int p0), .val (.int (2 : Int32)), .val (.ref b7), .val (.int (0 : Int32))] [(.int (0 : Int32))]))
      refine own_go (fun _ k => XS.iloadN X7.here hx rfl (hb hby d1_30) rfl k) ?_
      show own_Fin _ _ _ _ _ _ _ (T7.setTop (mkF m 31 #[.val (.int p0), .val (.int (2 : Int32)), .val (.ref b7), .val (.int (0 : Int32))] [(.int (2 : Int32)), (.int (0 : Int32))]))
      refine own_go (fun _ k => XS.icmpNo X7.here hx rfl (hb hby d1_31) rfl (tlt (by decide)).2.1 k) ?_
      show own_Fin _ _ _ _ _ _ _ (T7.setTop (mkF m 34 #[.val (.int p0), .val (.int (2 : Int32)), .val (.ref b7), .val (.int (0 : Int32))] []))
      refine own_go (fun _ k => XS.aloadN X7.here hx rfl (hb hby d1_34) rfl rfl k) ?_
      show own_Fin _ _ _ _ _ _ _ (T7.setTop (mkF m 35 #[.val (.int p0), .val (.int (2 : Int32)), .val (.ref b7), .val (.int (0 : Int32))] [(.ref b7)]))
      refine own_go (fun _ k => XS.iloadN X7.here hx rfl (hb hby d1_35) rfl k) ?_
      show own_Fin _ _ _ _ _ _ _ (T7.setTop (mkF m 36 #[.val (.int p0), .val (.int (2 : Int32)), .val (.ref b7), .val (.int (0 : Int32))] [(.int (0 : Int32)), (.ref b7)]))
      refine own_go (fun _ k => XS.iloadN X7.here hx rfl (hb hby d1_36) rfl k) ?_
      show own_Fin _ _ _ _ _ _ _ (T7.setTop (mkF m 37 #[.val (.int p0), .val (.int (2 : Int32)), .val (.ref b7), .val (.int (0 : Int32))] [(.int p0), (.int (0 : Int32)), (.ref b7)]))
      refine own_go (fun _ k => XS.bipush X7.here hx rfl (hb hby d1_37) k) ?_
      show own_Fin _ _ _ _ _ _ _ (T7.setTop (mkF m 39 #[.val (.int p0), .val (.int (2 : Int32)), .val (.ref b7), .val (.int (0 : Int32))] [(.int (8 : Int32)), (.int p0), (.int (0 : Int32)), (.ref b7)]))
      refine own_go (fun _ k => XS.iloadN X7.here hx rfl (hb hby d1_39) rfl k) ?_
      show own_Fin _ _ _ _ _ _ _ (T7.setTop (mkF m 40 #[.val (.int p0), .val (.int (2 : Int32)), .val (.ref b7), .val (.int (0 : Int32))] [(.int (2 : Int32)), (.int (8 : Int32)), (.int p0), (.int (0 : Int32)), (.ref b7)]))
      refine own_go (fun _ k => XS.iconst X7.here hx rfl (hb hby d1_40) k) ?_
      show own_Fin _ _ _ _ _ _ _ (T7.setTop (mkF m 41 #[.val (.int p0), .val (.int (2 : Int32)), .val (.ref b7), .val (.int (0 : Int32))] [(.int (1 : Int32)), (.int (2 : Int32)), (.int (8 : Int32)), (.int p0), (.int (0 : Int32)), (.ref b7)]))
      refine own_go (fun _ k => XS.isub X7.here hx rfl (hb hby d1_41) rfl k) ?_
      show own_Fin _ _ _ _ _ _ _ (T7.setTop (mkF m 42 #[.val (.int p0), .val (.int (2 : Int32)), .val (.ref b7), .val (.int (0 : Int32))] [(.int (1 : Int32)), (.int (8 : Int32)), (.int p0), (.int (0 : Int32)), (.ref b7)]))
      refine own_go (fun _ k => XS.iloadN X7.here hx rfl (hb hby d1_42) rfl k) ?_
      show own_Fin _ _ _ _ _ _ _ (T7.setTop (mkF m 43 #[.val (.int p0), .val (.int (2 : Int32)), .val (.ref b7), .val (.int (0 : Int32))] [(.int (0 : Int32)), (.int (1 : Int32)), (.int (8 : Int32)), (.int p0), (.int (0 : Int32)), (.ref b7)]))
      refine own_go (fun _ k => XS.isub X7.here hx rfl (hb hby d1_43) rfl k) ?_
      show own_Fin _ _ _ _ _ _ _ (T7.setTop (mkF m 44 #[.val (.int p0), .val (.int (2 : Int32)), .val (.ref b7), .val (.int (0 : Int32))] [(.int (1 : Int32)), (.int (8 : Int32)), (.int p0), (.int (0 : Int32)), (.ref b7)]))
      refine own_go (fun _ k => XS.imul X7.here hx rfl (hb hby d1_44) rfl k) ?_
      show own_Fin _ _ _ _ _ _ _ (T7.setTop (mkF m 45 #[.val (.int p0), .val (.int (2 : Int32)), .val (.ref b7), .val (.int (0 : Int32))] [(.int (8 : Int32)), (.int p0), (.int (0 : Int32)), (.ref b7)]))
      refine own_go (fun _ k => XS.ishr X7.here hx rfl (hb hby d1_45) rfl k) ?_
      show own_Fin _ _ _ _ _ _ _ (T7.setTop (mkF m 46 #[.val (.int p0), .val (.int (2 : Int32)), .val (.ref b7), .val (.int (0 : Int32))] [(.int (own_ishr p0 (8 : Int32))), (.int (0 : Int32)), (.ref b7)]))
      refine own_go (fun _ k => XS.i2b X7.here hx rfl (hb hby d1_46) rfl k) ?_
      show own_Fin _ _ _ _ _ _ _ (T7.setTop (mkF m 47 #[.val (.int p0), .val (.int (2 : Int32)), .val (.ref b7), .val (.int (0 : Int32))] [(.int (own_i2b (own_ishr p0 (8 : Int32)))), (.int (0 : Int32)), (.ref b7)]))
      obtain ⟨T8, h8, X8, e8, W8, A_b7_8, st8⟩ := own_stB X7 hx hZ e7 A_b7_7 (j := (0 : Int32)) ⟨by decide, by decide⟩ (g := (mkF m 47 #[.val (.int p0), .val (.int (2 : Int32)), .val (.ref b7), .val (.int (0 : Int32))] [(.int (own_i2b (own_ishr p0 (8 : Int32)))), (.int (0 : Int32)), (.ref b7)])) rfl rfl (hb hby d1_47)
      have K8 := K7.wr W8 (Or.inr sz_b7)
      have N8 := Fr.snoc X8 N0 ge_b7
      have Z8 : n0 ≤ h8.size := Nat.le_trans Z7 (Keep.of_wr W8).1
      obtain ⟨f8, hf8⟩ : ∃ z, z = (own_set (fun _ => (0 : Int32)) (0 : Int32) (own_i2b (own_i2b (own_ishr p0 (8 : Int32))))) := ⟨_, rfl⟩
      rw [← hf8] at A_b7_8
      refine own_go (fun tg k => st8 tg k) ?_
      show own_Fin _ _ _ _ _ _ _ (T8.setTop (mkF m 48 #[.val (.int p0), .val (.int (2 : Int32)), .val (.ref b7), .val (.int (0 : Int32))] []))
      refine own_go (fun _ k => XS.iinc X8.here hx rfl (hb hby d1_48) rfl (l' := #[.val (.int p0), .val (.int (2 : Int32)), .val (.ref b7), .val (.int (1 : Int32))]) rfl k) ?_
      show own_Fin _ _ _ _ _ _ _ (T8.setTop (mkF m 51 #[.val (.int p0), .val (.int (2 : Int32)), .val (.ref b7), .val (.int (1 : Int32))] []))
      refine own_go (fun _ k => XS.goto X8.here hx rfl (pc0 := 51) (pc' := 29) rfl (hb hby d1_51) (by decide) (by decide) k) ?_
      show own_Fin _ _ _ _ _ _ _ (T8.setTop (mkF m 29 #[.val (.int p0), .val (.int (2 : Int32)), .val (.ref b7), .val (.int (1 : Int32))] []))
      refine own_go (fun _ k => XS.iloadN X8.here hx rfl (hb hby d1_29) rfl k) ?_
      show own_Fin _ _ _ _ _ _ _ (T8.setTop (mkF m 30 #[.val (.int p0), .val (.int (2 : Int32)), .val (.ref b7), .val (.int (1 : Int32))] [(.int (1 : Int32))]))
      refine own_go (fun _ k => XS.iloadN X8.here hx rfl (hb hby d1_30) rfl k) ?_
      show own_Fin _ _ _ _ _ _ _ (T8.setTop (mkF m 31 #[.val (.int p0), .val (.int (2 : Int32)), .val (.ref b7), .val (.int (1 : Int32))] [(.int (2 : Int32)), (.int (1 : Int32))]))
      refine own_go (fun _ k => XS.icmpNo X8.here hx rfl (hb hby d1_31) rfl (tlt (by decide)).2.1 k) ?_
      show own_Fin _ _ _ _ _ _ _ (T8.setTop (mkF m 34 #[.val (.int p0), .val (.int (2 : Int32)), .val (.ref b7), .val (.int (1 : Int32))] []))
      refine own_go (fun _ k => XS.aloadN X8.here hx rfl (hb hby d1_34) rfl rfl k) ?_
      show own_Fin _ _ _ _ _ _ _ (T8.setTop (mkF m 35 #[.val (.int p0), .val (.int (2 : Int32)), .val (.ref b7), .val (.int (1 : Int32))] [(.ref b7)]))
      refine own_go (fun _ k => XS.iloadN X8.here hx rfl (hb hby d1_35) rfl k) ?_
      show own_Fin _ _ _ _ _ _ _ (T8.setTop (mkF m 36 #[.val (.int p0), .val (.int (2 : Int32)), .val (.ref b7), .val (.int (1 : Int32))] [(.int (1 : Int32)), (.ref b7)]))
      refine own_go (fun _ k => XS.iloadN X8.here hx rfl (hb hby d1_36) rfl k) ?_
      show own_Fin _ _ _ _ _ _ _ (T8.setTop (mkF m 37 #[.val (.int p0), .val (.int (2 : Int32)), .val (.ref b7), .val (.int (1 : Int32))] [(.int p0), (.int (1 : Int32)), (.ref b7)]))
      refine own_go (fun _ k => XS.bipush X8.here hx rfl (hb hby d1_37) k) ?_
      show own_Fin _ _ _ _ _ _ _ (T8.setTop (mkF m 39 #[.val (.int p0), .val (.int (2 : Int32)), .val (.ref b7), .val (.int (1 : Int32))] [(.int (8 : Int32)), (.int p0), (.int (1 : Int32)), (.ref b7)]))
      refine own_go (fun _ k => XS.iloadN X8.here hx rfl (hb hby d1_39) rfl k) ?_
      show own_Fin _ _ _ _ _ _ _ (T8.setTop (mkF m 40 #[.val (.int p0), .val (.int (2 : Int32)), .val (.ref b7), .val (.int (1 : Int32))] [(.int (2 : Int32)), (.int (8 : Int32)), (.int p0), (.int (1 : Int32)), (.ref b7)]))
      refine own_go (fun _ k => XS.iconst X8.here hx rfl (hb hby d1_40) k) ?_
      show own_Fin _ _ _ _ _ _ _ (T8.setTop (mkF m 41 #[.val (.int p0), .val (.int (2 : Int32)), .val (.ref b7), .val (.int (1 : Int32))] [(.int (1 : Int32)), (.int (2 : Int32)), (.int (8 : Int32)), (.int p0), (.int (1 : Int32)), (.ref b7)]))
      refine own_go (fun _ k => XS.isub X8.here hx rfl (hb hby d1_41) rfl k) ?_
      show own_Fin _ _ _ _ _ _ _ (T8.setTop (mkF m 42 #[.val (.int p0), .val (.int (2 : Int32)), .val (.ref b7), .val (.int (1 : Int32))] [(.int (1 : Int32)), (.int (8 : Int32)), (.int p0), (.int (1 : Int32)), (.ref b7)]))
      refine own_go (fun _ k => XS.iloadN X8.here hx rfl (hb hby d1_42) rfl k) ?_
      show own_Fin _ _ _ _ _ _ _ (T8.setTop (mkF m 43 #[.val (.int p0), .val (.int (2 : Int32)), .val (.ref b7), .val (.int (1 : Int32))] [(.int (1 : Int32)), (.int (1 : Int32)), (.int (8 : Int32)), (.int p0), (.int (1 : Int32)), (.ref b7)]))
      refine own_go (fun _ k => XS.isub X8.here hx rfl (hb hby d1_43) rfl k) ?_
      show own_Fin _ _ _ _ _ _ _ (T8.setTop (mkF m 44 #[.val (.int p0), .val (.int (2 : Int32)), .val (.ref b7), .val (.int (1 : Int32))] [(.int (0 : Int32)), (.int (8 : Int32)), (.int p0), (.int (1 : Int32)), (.ref b7)]))
      refine own_go (fun _ k => XS.imul X8.here hx rfl (hb hby d1_44) rfl k) ?_
      show own_Fin _ _ _ _ _ _ _ (T8.setTop (mkF m 45 #[.val (.int p0), .val (.int (2 : Int32)), .val (.ref b7), .val (.int (1 : Int32))] [(.int (0 : Int32)), (.int p0), (.int (1 : Int32)), (.ref b7)]))
      refine own_go (fun _ k => XS.ishr X8.here hx rfl (hb hby d1_45) rfl k) ?_
      show own_Fin _ _ _ _ _ _ _ (T8.setTop (mkF m 46 #[.val (.int p0), .val (.int (2 : Int32)), .val (.ref b7), .val (.int (1 : Int32))] [(.int (own_ishr p0 (0 : Int32))), (.int (1 : Int32)), (.ref b7)]))
      refine own_go (fun _ k => XS.i2b X8.here hx rfl (hb hby d1_46) rfl k) ?_
      show own_Fin _ _ _ _ _ _ _ (T8.setTop (mkF m 47 #[.val (.int p0), .val (.int (2 : Int32)), .val (.ref b7), .val (.int (1 : Int32))] [(.int (own_i2b (own_ishr p0 (0 : Int32)))), (.int (1 : Int32)), (.ref b7)]))
      obtain ⟨T9, h9, X9, e9, W9, A_b7_9, st9⟩ := own_stB X8 hx hZ e8 A_b7_8 (j := (1 : Int32)) ⟨by decide, by decide⟩ (g := (mkF m 47 #[.val (.int p0), .val (.int (2 : Int32)), .val (.ref b7), .val (.int (1 : Int32))] [(.int (own_i2b (own_ishr p0 (0 : Int32)))), (.int (1 : Int32)), (.ref b7)])) rfl rfl (hb hby d1_47)
      have K9 := K8.wr W9 (Or.inr sz_b7)
      have N9 := Fr.snoc X9 N8 ge_b7
      have Z9 : n0 ≤ h9.size := Nat.le_trans Z8 (Keep.of_wr W9).1
      obtain ⟨f9, hf9⟩ : ∃ z, z = (own_set f8 (1 : Int32) (own_i2b (own_i2b (own_ishr p0 (0 : Int32))))) := ⟨_, rfl⟩
      rw [← hf9] at A_b7_9
      refine own_go (fun tg k => st9 tg k) ?_
      show own_Fin _ _ _ _ _ _ _ (T9.setTop (mkF m 48 #[.val (.int p0), .val (.int (2 : Int32)), .val (.ref b7), .val (.int (1 : Int32))] []))
      refine own_go (fun _ k => XS.iinc X9.here hx rfl (hb hby d1_48) rfl (l' := #[.val (.int p0), .val (.int (2 : Int32)), .val (.ref b7), .val (.int (2 : Int32))]) rfl k) ?_
      show own_Fin _ _ _ _ _ _ _ (T9.setTop (mkF m 51 #[.val (.int p0), .val (.int (2 : Int32)), .val (.ref b7), .val (.int (2 : Int32))] []))
      refine own_go (fun _ k => XS.goto X9.here hx rfl (pc0 := 51) (pc' := 29) rfl (hb hby d1_51) (by decide) (by decide) k) ?_
      show own_Fin _ _ _ _ _ _ _ (T9.setTop (mkF m 29 #[.val (.int p0), .val (.int (2 : Int32)), .val (.ref b7), .val (.int (2 : Int32))] []))
      refine own_go (fun _ k => XS.iloadN X9.here hx rfl (hb hby d1_29) rfl k) ?_
      show own_Fin _ _ _ _ _ _ _ (T9.setTop (mkF m 30 #[.val (.int p0), .val (.int (2 : Int32)), .val (.ref b7), .val (.int (2 : Int32))] [(.int (2 : Int32))]))
      refine own_go (fun _ k => XS.iloadN X9.here hx rfl (hb hby d1_30) rfl k) ?_
      show own_Fin _ _ _ _ _ _ _ (T9.setTop (mkF m 31 #[.val (.int p0), .val (.int (2 : Int32)), .val (.ref b7), .val (.int (2 : Int32))] [(.int (2 : Int32)), (.int (2 : Int32))]))
      refine own_go (fun _ k => XS.icmpYes X9.here hx rfl (pc0 := 31) (pc' := 54) rfl (hb hby d1_31) rfl (flt (by decide)).2.1 (by decide) (by decide) k) ?_
      show own_Fin _ _ _ _ _ _ _ (T9.setTop (mkF m 54 #[.val (.int p0), .val (.int (2 : Int32)), .val (.ref b7), .val (.int (2 : Int32))] []))
      refine own_go (fun _ k => XS.aloadN X9.here hx rfl (hb hby d1_54) rfl rfl k) ?_
      show own_Fin _ _ _ _ _ _ _ (T9.setTop (mkF m 55 #[.val (.int p0), .val (.int (2 : Int32)), .val (.ref b7), .val (.int (2 : Int32))] [(.ref b7)]))
      refine own_ret X9 hx hlk Bd.returns rfl (Or.inr (Or.inr (Or.inr (Or.inr ⟨rfl, rfl, rfl⟩)))) (hb hby d1_55) (Nat.le_of_ble_eq_true rfl) (Nat.le_of_ble_eq_true rfl) ?_
      try subst hf9
      try subst hf8
      rw [e9]
      refine ⟨b7, ?_, N9, K9, sz_b7, ?_⟩
      · first | (simp only [if_neg hc1, if_pos hc6]; done) | (simp only [if_neg hc1, if_pos hc6]; rfl) | rfl
      · first | (exact A_b7_9) | (simp only [own_tl, own_tb, if_neg hc1, if_pos hc6]; exact A_b7_9)
    · refine own_go (fun _ k => XS.icmpYes X0.here hx rfl (pc0 := 14) (pc' := 21) rfl (hb hby d1_14) rfl (flt hc6).2.2.2 (by decide) (by decide) k) ?_
      show own_Fin _ _ _ _ _ _ _ (s₁.setTop (mkF m 21 #[.val (.int p0), .unset, .unset, .unset] []))
      refine own_go (fun _ k => XS.iconst X0.here hx rfl (hb hby d1_21) k) ?_
      show own_Fin _ _ _ _ _ _ _ (s₁.setTop (mkF m 22 #[.val (.int p0), .unset, .unset, .unset] [(.int (1 : Int32))]))
      refine own_go (fun _ k => XS.istoreN X0.here hx rfl (hb hby d1_22) rfl (l' := #[.val (.int p0), .val (.int (1 : Int32)), .unset, .unset]) rfl k) ?_
      show own_Fin _ _ _ _ _ _ _ (s₁.setTop (mkF m 23 #[.val (.int p0), .val (.int (1 : Int32)), .unset, .unset] []))
      refine own_go (fun _ k => XS.iloadN X0.here hx rfl (hb hby d1_23) rfl k) ?_
      show own_Fin _ _ _ _ _ _ _ (s₁.setTop (mkF m 24 #[.val (.int p0), .val (.int (1 : Int32)), .unset, .unset] [(.int (1 : Int32))]))
      obtain ⟨T10, h10, k10, X10, e10, E10, A10, st10⟩ := newP X0 hx hZ (hw _ (List.mem_of_getElem? (i := 6) rfl)) e0 (g := (mkF m 24 #[.val (.int p0), .val (.int (1 : Int32)), .unset, .unset] [(.int (1 : Int32))])) rfl (hb hby d1_24) rfl (by decide) (cap := 1) (by decide) (by decide) (by decide) (by decide)
      obtain ⟨b10, g10⟩ : ∃ z, z = h0.size := ⟨_, rfl⟩
      rw [← g10] at A10 st10
      have ge_b10 : n0 ≤ b10 := Nat.le_trans Z0 (Nat.le_of_eq g10.symm)
      have sz_b10 : h0.size ≤ b10 := Nat.le_trans K0.1 (Nat.le_of_eq g10.symm)
      have K10 := K0.ext E10
      have Z10 : n0 ≤ h10.size := Nat.le_trans Z0 E10.1
      have A_b10_10 : own_Arf Z h10 b10 .byte (1 : Int32) (fun i => .int ((fun _ => (0 : Int32)) i)) := own_Arf.new A10 (by decide)
      refine own_go (fun tg k => st10 tg k) ?_
      show own_Fin _ _ _ _ _ _ _ (T10.setTop (mkF m 26 #[.val (.int p0), .val (.int (1 : Int32)), .unset, .unset] [(.ref b10)]))
      refine own_go (fun _ k => XS.astoreN X10.here hx rfl (hb hby d1_26) rfl rfl (l' := #[.val (.int p0), .val (.int (1 : Int32)), .val (.ref b10), .unset]) rfl k) ?_
      show own_Fin _ _ _ _ _ _ _ (T10.setTop (mkF m 27 #[.val (.int p0), .val (.int (1 : Int32)), .val (.ref b10), .unset] []))
      refine own_go (fun _ k => XS.iconst X10.here hx rfl (hb hby d1_27) k) ?_
      show own_Fin _ _ _ _ _ _ _ (T10.setTop (mkF m 28 #[.val (.int p0), .val (.int (1 : Int32)), .val (.ref b10), .unset] [(.int (0 : Int32))]))
      refine own_go (fun _ k => XS.istoreN X10.here hx rfl (hb hby d1_28) rfl (l' := #[.val (.int p0), .val (.int (1 : Int32)), .val (.ref b10), .val (.int (0 : Int32))]) rfl k) ?_
      show own_Fin _ _ _ _ _ _ _ (T10.setTop (mkF m 29 #[.val (.int p0), .val (.int (1 : Int32)), .val (.ref b10), .val (.int (0 : Int32))] []))
      refine own_go (fun _ k => XS.iloadN X10.here hx rfl (hb hby d1_29) rfl k) ?_
      show own_Fin _ _ _ _ _ _ _ (T10.setTop (mkF m 30 #[.val (.int p0), .val (.int (1 : Int32)), .val (.ref b10), .val (.int (0 : Int32))] [(.int (0 : Int32))]))
      refine own_go (fun _ k => XS.iloadN X10.here hx rfl (hb hby d1_30) rfl k) ?_
      show own_Fin _ _ _ _ _ _ _ (T10.setTop (mkF m 31 #[.val (.int p0), .val (.int (1 : Int32)), .val (.ref b10), .val (.int (0 : Int32))] [(.int (1 : Int32)), (.int (0 : Int32))]))
      refine own_go (fun _ k => XS.icmpNo X10.here hx rfl (hb hby d1_31) rfl (tlt (by decide)).2.1 k) ?_
      show own_Fin _ _ _ _ _ _ _ (T10.setTop (mkF m 34 #[.val (.int p0), .val (.int (1 : Int32)), .val (.ref b10), .val (.int (0 : Int32))] []))
      refine own_go (fun _ k => XS.aloadN X10.here hx rfl (hb hby d1_34) rfl rfl k) ?_
      show own_Fin _ _ _ _ _ _ _ (T10.setTop (mkF m 35 #[.val (.int p0), .val (.int (1 : Int32)), .val (.ref b10), .val (.int (0 : Int32))] [(.ref b10)]))
      refine own_go (fun _ k => XS.iloadN X10.here hx rfl (hb hby d1_35) rfl k) ?_
      show own_Fin _ _ _ _ _ _ _ (T10.setTop (mkF m 36 #[.val (.int p0), .val (.int (1 : Int32)), .val (.ref b10), .val (.int (0 : Int32))] [(.int (0 : Int32)), (.ref b10)]))
      refine own_go (fun _ k => XS.iloadN X10.here hx rfl (hb hby d1_36) rfl k) ?_
      show own_Fin _ _ _ _ _ _ _ (T10.setTop (mkF m 37 #[.val (.int p0), .val (.int (1 : Int32)), .val (.ref b10), .val (.int (0 : Int32))] [(.int p0), (.int (0 : Int32)), (.ref b10)]))
      refine own_go (fun _ k => XS.bipush X10.here hx rfl (hb hby d1_37) k) ?_
      show own_Fin _ _ _ _ _ _ _ (T10.setTop (mkF m 39 #[.val (.int p0), .val (.int (1 : Int32)), .val (.ref b10), .val (.int (0 : Int32))] [(.int (8 : Int32)), (.int p0), (.int (0 : Int32)), (.ref b10)]))
      refine own_go (fun _ k => XS.iloadN X10.here hx rfl (hb hby d1_39) rfl k) ?_
      show own_Fin _ _ _ _ _ _ _ (T10.setTop (mkF m 40 #[.val (.int p0), .val (.int (1 : Int32)), .val (.ref b10), .val (.int (0 : Int32))] [(.int (1 : Int32)), (.int (8 : Int32)), (.int p0), (.int (0 : Int32)), (.ref b10)]))
      refine own_go (fun _ k => XS.iconst X10.here hx rfl (hb hby d1_40) k) ?_
      show own_Fin _ _ _ _ _ _ _ (T10.setTop (mkF m 41 #[.val (.int p0), .val (.int (1 : Int32)), .val (.ref b10), .val (.int (0 : Int32))] [(.int (1 : Int32)), (.int (1 : Int32)), (.int (8 : Int32)), (.int p0), (.int (0 : Int32)), (.ref b10)]))
      refine own_go (fun _ k => XS.isub X10.here hx rfl (hb hby d1_41) rfl k) ?_
      show own_Fin _ _ _ _ _ _ _ (T10.setTop (mkF m 42 #[.val (.int p0), .val (.int (1 : Int32)), .val (.ref b10), .val (.int (0 : Int32))] [(.int (0 : Int32)), (.int (8 : Int32)), (.int p0), (.int (0 : Int32)), (.ref b10)]))
      refine own_go (fun _ k => XS.iloadN X10.here hx rfl (hb hby d1_42) rfl k) ?_
      show own_Fin _ _ _ _ _ _ _ (T10.setTop (mkF m 43 #[.val (.int p0), .val (.int (1 : Int32)), .val (.ref b10), .val (.int (0 : Int32))] [(.int (0 : Int32)), (.int (0 : Int32)), (.int (8 : Int32)), (.int p0), (.int (0 : Int32)), (.ref b10)]))
      refine own_go (fun _ k => XS.isub X10.here hx rfl (hb hby d1_43) rfl k) ?_
      show own_Fin _ _ _ _ _ _ _ (T10.setTop (mkF m 44 #[.val (.int p0), .val (.int (1 : Int32)), .val (.ref b10), .val (.int (0 : Int32))] [(.int (0 : Int32)), (.int (8 : Int32)), (.int p0), (.int (0 : Int32)), (.ref b10)]))
      refine own_go (fun _ k => XS.imul X10.here hx rfl (hb hby d1_44) rfl k) ?_
      show own_Fin _ _ _ _ _ _ _ (T10.setTop (mkF m 45 #[.val (.int p0), .val (.int (1 : Int32)), .val (.ref b10), .val (.int (0 : Int32))] [(.int (0 : Int32)), (.int p0), (.int (0 : Int32)), (.ref b10)]))
      refine own_go (fun _ k => XS.ishr X10.here hx rfl (hb hby d1_45) rfl k) ?_
      show own_Fin _ _ _ _ _ _ _ (T10.setTop (mkF m 46 #[.val (.int p0), .val (.int (1 : Int32)), .val (.ref b10), .val (.int (0 : Int32))] [(.int (own_ishr p0 (0 : Int32))), (.int (0 : Int32)), (.ref b10)]))
      refine own_go (fun _ k => XS.i2b X10.here hx rfl (hb hby d1_46) rfl k) ?_
      show own_Fin _ _ _ _ _ _ _ (T10.setTop (mkF m 47 #[.val (.int p0), .val (.int (1 : Int32)), .val (.ref b10), .val (.int (0 : Int32))] [(.int (own_i2b (own_ishr p0 (0 : Int32)))), (.int (0 : Int32)), (.ref b10)]))
      obtain ⟨T11, h11, X11, e11, W11, A_b10_11, st11⟩ := own_stB X10 hx hZ e10 A_b10_10 (j := (0 : Int32)) ⟨by decide, by decide⟩ (g := (mkF m 47 #[.val (.int p0), .val (.int (1 : Int32)), .val (.ref b10), .val (.int (0 : Int32))] [(.int (own_i2b (own_ishr p0 (0 : Int32)))), (.int (0 : Int32)), (.ref b10)])) rfl rfl (hb hby d1_47)
      have K11 := K10.wr W11 (Or.inr sz_b10)
      have N11 := Fr.snoc X11 N0 ge_b10
      have Z11 : n0 ≤ h11.size := Nat.le_trans Z10 (Keep.of_wr W11).1
      obtain ⟨f11, hf11⟩ : ∃ z, z = (own_set (fun _ => (0 : Int32)) (0 : Int32) (own_i2b (own_i2b (own_ishr p0 (0 : Int32))))) := ⟨_, rfl⟩
      rw [← hf11] at A_b10_11
      refine own_go (fun tg k => st11 tg k) ?_
      show own_Fin _ _ _ _ _ _ _ (T11.setTop (mkF m 48 #[.val (.int p0), .val (.int (1 : Int32)), .val (.ref b10), .val (.int (0 : Int32))] []))
      refine own_go (fun _ k => XS.iinc X11.here hx rfl (hb hby d1_48) rfl (l' := #[.val (.int p0), .val (.int (1 : Int32)), .val (.ref b10), .val (.int (1 : Int32))]) rfl k) ?_
      show own_Fin _ _ _ _ _ _ _ (T11.setTop (mkF m 51 #[.val (.int p0), .val (.int (1 : Int32)), .val (.ref b10), .val (.int (1 : Int32))] []))
      refine own_go (fun _ k => XS.goto X11.here hx rfl (pc0 := 51) (pc' := 29) rfl (hb hby d1_51) (by decide) (by decide) k) ?_
      show own_Fin _ _ _ _ _ _ _ (T11.setTop (mkF m 29 #[.val (.int p0), .val (.int (1 : Int32)), .val (.ref b10), .val (.int (1 : Int32))] []))
      refine own_go (fun _ k => XS.iloadN X11.here hx rfl (hb hby d1_29) rfl k) ?_
      show own_Fin _ _ _ _ _ _ _ (T11.setTop (mkF m 30 #[.val (.int p0), .val (.int (1 : Int32)), .val (.ref b10), .val (.int (1 : Int32))] [(.int (1 : Int32))]))
      refine own_go (fun _ k => XS.iloadN X11.here hx rfl (hb hby d1_30) rfl k) ?_
      show own_Fin _ _ _ _ _ _ _ (T11.setTop (mkF m 31 #[.val (.int p0), .val (.int (1 : Int32)), .val (.ref b10), .val (.int (1 : Int32))] [(.int (1 : Int32)), (.int (1 : Int32))]))
      refine own_go (fun _ k => XS.icmpYes X11.here hx rfl (pc0 := 31) (pc' := 54) rfl (hb hby d1_31) rfl (flt (by decide)).2.1 (by decide) (by decide) k) ?_
      show own_Fin _ _ _ _ _ _ _ (T11.setTop (mkF m 54 #[.val (.int p0), .val (.int (1 : Int32)), .val (.ref b10), .val (.int (1 : Int32))] []))
      refine own_go (fun _ k => XS.aloadN X11.here hx rfl (hb hby d1_54) rfl rfl k) ?_
      show own_Fin _ _ _ _ _ _ _ (T11.setTop (mkF m 55 #[.val (.int p0), .val (.int (1 : Int32)), .val (.ref b10), .val (.int (1 : Int32))] [(.ref b10)]))
      refine own_ret X11 hx hlk Bd.returns rfl (Or.inr (Or.inr (Or.inr (Or.inr ⟨rfl, rfl, rfl⟩)))) (hb hby d1_55) (Nat.le_of_ble_eq_true rfl) (Nat.le_of_ble_eq_true rfl) ?_
      try subst hf11
      rw [e11]
      refine ⟨b10, ?_, N11, K11, sz_b10, ?_⟩
      · first | (simp only [if_neg hc1, if_neg hc6]; done) | (simp only [if_neg hc1, if_neg hc6]; rfl) | rfl
      · first | (exact A_b10_11) | (simp only [own_tl, own_tb, if_neg hc1, if_neg hc6]; exact A_b10_11)
theorem own_t3 (x : Int32) (h1 : ¬ own_tl x = (1 : Int32)) (h2 : ¬ own_tl x = (2 : Int32)) : own_tl x = (3 : Int32) := by
  simp only [own_tl] at *
  repeat' split at *
  all_goals first | rfl | contradiction
theorem own_pd38 : parseMethodDescriptor "(I)[B" = some ⟨[.int], some (.array .byte)⟩ := by decide +kernel
theorem pn_0 : plainName "com/example/duanfu/duanfu/model/TlvTagBytesPinLaw" = true := by first | (simp [plainName, overriddenIn]; done) | decide +kernel
theorem ef_0 (m : MethodId) (p0 : Int32) (p1 : Int32) : entryFrame m #[(.int p0), (.int p1)] maxLocals = mkF m 0 #[.val (.int p0), .val (.int p1), .unset, .unset, .unset, .unset, .unset] [] := by first | (simp [entryFrame, mkF, argsToLocals, Value.category, maxLocals]; done) | rfl
def own_f0 (p0 : Int32) (p1 : Int32) : Int32 := let z5 := (if (p1 &&& (3 : Int32)) = (0 : Int32) then (p0 &&& (255 : Int32)) else (if (p1 &&& (3 : Int32)) = (1 : Int32) then (p0 &&& (65535 : Int32)) else (p0 &&& (16777215 : Int32)))); (if (own_tl z5) = (1 : Int32) then (let z8 := (((own_tb z5) 0) &&& (255 : Int32)); (if z8 = z5 then ((1 : Int32)) else ((0 : Int32)))) else ((if (own_tl z5) = (2 : Int32) then ((if ((own_tb z5) 0) = (0 : Int32) then ((0 : Int32)) else (let z12 := (((own_tb z5) 0) &&& (255 : Int32)); let z13 := ((own_ishl z12 (8 : Int32)) ||| (((own_tb z5) 1) &&& (255 : Int32))); (if z13 = z5 then ((1 : Int32)) else ((0 : Int32)))))) else ((if ((own_tb z5) 0) = (0 : Int32) then ((0 : Int32)) else (let z17 := (((own_tb z5) 0) &&& (255 : Int32)); let z18 := ((own_ishl z17 (8 : Int32)) ||| (((own_tb z5) 1) &&& (255 : Int32))); let z19 := ((own_ishl z18 (8 : Int32)) ||| (((own_tb z5) 2) &&& (255 : Int32))); (if z19 = z5 then ((1 : Int32)) else ((0 : Int32)))))))))
theorem own_lf_own_f0_1 {p0 : Int32} {p1 : Int32} {z5 : Int32} {z8 : Int32} (hz5 : (if (p1 &&& (3 : Int32)) = (0 : Int32) then (p0 &&& (255 : Int32)) else (if (p1 &&& (3 : Int32)) = (1 : Int32) then (p0 &&& (65535 : Int32)) else (p0 &&& (16777215 : Int32)))) = z5) (hz8 : (((own_tb z5) 0) &&& (255 : Int32)) = z8) (hs7 : (own_tl z5) = (1 : Int32)) (hc9 : z8 = z5) : (some (.int (1 : Int32)) : Option Value) = some (.int (own_f0 p0 p1)) := by
  subst hz8
  subst hz5
  first | (simp only [own_f0, if_pos hs7, if_pos hc9]; done) | (simp only [own_f0, if_pos hs7, if_pos hc9]; rfl) | rfl
theorem own_lf_own_f0_2 {p0 : Int32} {p1 : Int32} {z5 : Int32} {z8 : Int32} (hz5 : (if (p1 &&& (3 : Int32)) = (0 : Int32) then (p0 &&& (255 : Int32)) else (if (p1 &&& (3 : Int32)) = (1 : Int32) then (p0 &&& (65535 : Int32)) else (p0 &&& (16777215 : Int32)))) = z5) (hz8 : (((own_tb z5) 0) &&& (255 : Int32)) = z8) (hs7 : (own_tl z5) = (1 : Int32)) (hc9 : ¬ (z8 = z5)) : (some (.int (0 : Int32)) : Option Value) = some (.int (own_f0 p0 p1)) := by
  subst hz8
  subst hz5
  first | (simp only [own_f0, if_pos hs7, if_neg hc9]; done) | (simp only [own_f0, if_pos hs7, if_neg hc9]; rfl) | rfl
theorem own_lf_own_f0_3 {p0 : Int32} {p1 : Int32} {z5 : Int32} (hz5 : (if (p1 &&& (3 : Int32)) = (0 : Int32) then (p0 &&& (255 : Int32)) else (if (p1 &&& (3 : Int32)) = (1 : Int32) then (p0 &&& (65535 : Int32)) else (p0 &&& (16777215 : Int32)))) = z5) (hs7 : ¬ ((own_tl z5) = (1 : Int32))) (hs10 : (own_tl z5) = (2 : Int32)) (hc11 : ((own_tb z5) 0) = (0 : Int32)) : (some (.int (0 : Int32)) : Option Value) = some (.int (own_f0 p0 p1)) := by
  subst hz5
  first | (simp only [own_f0, if_neg hs7, if_pos hs10, if_pos hc11]; done) | (simp only [own_f0, if_neg hs7, if_pos hs10, if_pos hc11]; rfl) | rfl
theorem own_lf_own_f0_4 {p0 : Int32} {p1 : Int32} {z5 : Int32} {z12 : Int32} {z13 : Int32} (hz5 : (if (p1 &&& (3 : Int32)) = (0 : Int32) then (p0 &&& (255 : Int32)) else (if (p1 &&& (3 : Int32)) = (1 : Int32) then (p0 &&& (65535 : Int32)) else (p0 &&& (16777215 : Int32)))) = z5) (hz12 : (((own_tb z5) 0) &&& (255 : Int32)) = z12) (hz13 : ((own_ishl z12 (8 : Int32)) ||| (((own_tb z5) 1) &&& (255 : Int32))) = z13) (hs7 : ¬ ((own_tl z5) = (1 : Int32))) (hs10 : (own_tl z5) = (2 : Int32)) (hc11 : ¬ (((own_tb z5) 0) = (0 : Int32))) (hc14 : z13 = z5) : (some (.int (1 : Int32)) : Option Value) = some (.int (own_f0 p0 p1)) := by
  subst hz13
  subst hz12
  subst hz5
  first | (simp only [own_f0, if_neg hs7, if_pos hs10, if_neg hc11, if_pos hc14]; done) | (simp only [own_f0, if_neg hs7, if_pos hs10, if_neg hc11, if_pos hc14]; rfl) | rfl
theorem own_lf_own_f0_5 {p0 : Int32} {p1 : Int32} {z5 : Int32} {z12 : Int32} {z13 : Int32} (hz5 : (if (p1 &&& (3 : Int32)) = (0 : Int32) then (p0 &&& (255 : Int32)) else (if (p1 &&& (3 : Int32)) = (1 : Int32) then (p0 &&& (65535 : Int32)) else (p0 &&& (16777215 : Int32)))) = z5) (hz12 : (((own_tb z5) 0) &&& (255 : Int32)) = z12) (hz13 : ((own_ishl z12 (8 : Int32)) ||| (((own_tb z5) 1) &&& (255 : Int32))) = z13) (hs7 : ¬ ((own_tl z5) = (1 : Int32))) (hs10 : (own_tl z5) = (2 : Int32)) (hc11 : ¬ (((own_tb z5) 0) = (0 : Int32))) (hc14 : ¬ (z13 = z5)) : (some (.int (0 : Int32)) : Option Value) = some (.int (own_f0 p0 p1)) := by
  subst hz13
  subst hz12
  subst hz5
  first | (simp only [own_f0, if_neg hs7, if_pos hs10, if_neg hc11, if_neg hc14]; done) | (simp only [own_f0, if_neg hs7, if_pos hs10, if_neg hc11, if_neg hc14]; rfl) | rfl
theorem own_lf_own_f0_6 {p0 : Int32} {p1 : Int32} {z5 : Int32} (hz5 : (if (p1 &&& (3 : Int32)) = (0 : Int32) then (p0 &&& (255 : Int32)) else (if (p1 &&& (3 : Int32)) = (1 : Int32) then (p0 &&& (65535 : Int32)) else (p0 &&& (16777215 : Int32)))) = z5) (hs7 : ¬ ((own_tl z5) = (1 : Int32))) (hs10 : ¬ ((own_tl z5) = (2 : Int32))) (hc16 : ((own_tb z5) 0) = (0 : Int32)) : (some (.int (0 : Int32)) : Option Value) = some (.int (own_f0 p0 p1)) := by
  subst hz5
  first | (simp only [own_f0, if_neg hs7, if_neg hs10, if_pos hc16]; done) | (simp only [own_f0, if_neg hs7, if_neg hs10, if_pos hc16]; rfl) | rfl
theorem own_lf_own_f0_7 {p0 : Int32} {p1 : Int32} {z5 : Int32} {z17 : Int32} {z18 : Int32} {z19 : Int32} (hz5 : (if (p1 &&& (3 : Int32)) = (0 : Int32) then (p0 &&& (255 : Int32)) else (if (p1 &&& (3 : Int32)) = (1 : Int32) then (p0 &&& (65535 : Int32)) else (p0 &&& (16777215 : Int32)))) = z5) (hz17 : (((own_tb z5) 0) &&& (255 : Int32)) = z17) (hz18 : ((own_ishl z17 (8 : Int32)) ||| (((own_tb z5) 1) &&& (255 : Int32))) = z18) (hz19 : ((own_ishl z18 (8 : Int32)) ||| (((own_tb z5) 2) &&& (255 : Int32))) = z19) (hs7 : ¬ ((own_tl z5) = (1 : Int32))) (hs10 : ¬ ((own_tl z5) = (2 : Int32))) (hc16 : ¬ (((own_tb z5) 0) = (0 : Int32))) (hc20 : z19 = z5) : (some (.int (1 : Int32)) : Option Value) = some (.int (own_f0 p0 p1)) := by
  subst hz19
  subst hz18
  subst hz17
  subst hz5
  first | (simp only [own_f0, if_neg hs7, if_neg hs10, if_neg hc16, if_pos hc20]; done) | (simp only [own_f0, if_neg hs7, if_neg hs10, if_neg hc16, if_pos hc20]; rfl) | rfl
theorem own_lf_own_f0_8 {p0 : Int32} {p1 : Int32} {z5 : Int32} {z17 : Int32} {z18 : Int32} {z19 : Int32} (hz5 : (if (p1 &&& (3 : Int32)) = (0 : Int32) then (p0 &&& (255 : Int32)) else (if (p1 &&& (3 : Int32)) = (1 : Int32) then (p0 &&& (65535 : Int32)) else (p0 &&& (16777215 : Int32)))) = z5) (hz17 : (((own_tb z5) 0) &&& (255 : Int32)) = z17) (hz18 : ((own_ishl z17 (8 : Int32)) ||| (((own_tb z5) 1) &&& (255 : Int32))) = z18) (hz19 : ((own_ishl z18 (8 : Int32)) ||| (((own_tb z5) 2) &&& (255 : Int32))) = z19) (hs7 : ¬ ((own_tl z5) = (1 : Int32))) (hs10 : ¬ ((own_tl z5) = (2 : Int32))) (hc16 : ¬ (((own_tb z5) 0) = (0 : Int32))) (hc20 : ¬ (z19 = z5)) : (some (.int (0 : Int32)) : Option Value) = some (.int (own_f0 p0 p1)) := by
  subst hz19
  subst hz18
  subst hz17
  subst hz5
  first | (simp only [own_f0, if_neg hs7, if_neg hs10, if_neg hc16, if_neg hc20]; done) | (simp only [own_f0, if_neg hs7, if_neg hs10, if_neg hc16, if_neg hc20]; rfl) | rfl
set_option maxRecDepth 65536 in
set_option maxHeartbeats 40000000 in
theorem rm0 (l : Launch) (Z : State) (a0 : Array Value) (hw : ∀ d ∈ tables_1, d.before a0 Z = true) (ws : List Jvm.Cond) (p0 : Int32) (p1 : Int32) (h0 : Heap) (n0 : Nat) (Z0 : n0 ≤ h0.size) :
    MetFree l x (head1 (Jvm.Cond.code x code maxLocals ret :: ws) room_1) (fun a U => a = #[(.int p0), (.int p1)] ∧ Z.Warmed39 U.vm ∧ U.heap = h0) (fun _ _ _ _ _ => True) (fun _ U o U' => ∃ v L, o = .returned v ∧ own_QL (some (.int (own_f0 p0 p1))) n0 v U'.heap L ∧ FrameEnd U o U' L 16 128) := by
  refine MetFree.of_bodySF (plainFor_of_name pn_0) hisR ?_
  intro p e s m args below meth c s₁ Bd hml0 hP hK
  obtain ⟨rfl, hZ, hh⟩ := hP
  have hx := Bd.exec
  have hby := Bd.bytes
  have hml : c.maxLocals = 7 := hml0
  have hown : s.vm.findClass "com/example/duanfu/duanfu/model/TlvTagBytesPinLaw" = some m.cls := findClass_of_methodNamed Bd.named
  have hnm := (name_of_methodNamed Bd.named Bd.method).1
  have hlk : meth.locks = false := BodyLoose.notSynchronized Bd
  have X0 : Stand p l e room_1 s m #[(.int p0), (.int p1)] below meth c s₁ [] 0 0 := Stand.of_body Bd
  have e0 : s₁.heap = h0 := by rw [← hh, Bd.state]; rfl
  have N0 := Fr.nil n0
  show own_Fin p.tables e below s (own_QL (some (.int (own_f0 p0 p1))) n0) 16 128 (s₁.setTop (entryFrame m #[(.int p0), (.int p1)] maxLocals))
  rw [ef_0]
  show own_Fin _ _ _ _ _ _ _ (s₁.setTop (mkF m 0 #[.val (.int p0), .val (.int p1), .unset, .unset, .unset, .unset, .unset] []))
  refine own_go (fun _ k => XS.iloadN X0.here hx rfl (hb hby at_0) rfl k) ?_
  show own_Fin _ _ _ _ _ _ _ (s₁.setTop (mkF m 1 #[.val (.int p0), .val (.int p1), .unset, .unset, .unset, .unset, .unset] [(.int p1)]))
  refine own_go (fun _ k => XS.iconst X0.here hx rfl (hb hby at_1) k) ?_
  show own_Fin _ _ _ _ _ _ _ (s₁.setTop (mkF m 2 #[.val (.int p0), .val (.int p1), .unset, .unset, .unset, .unset, .unset] [(.int (3 : Int32)), (.int p1)]))
  refine own_go (fun _ k => XS.iand X0.here hx rfl (hb hby at_2) rfl k) ?_
  show own_Fin _ _ _ _ _ _ _ (s₁.setTop (mkF m 3 #[.val (.int p0), .val (.int p1), .unset, .unset, .unset, .unset, .unset] [(.int (p1 &&& (3 : Int32)))]))
  refine own_go (fun _ k => XS.istoreN X0.here hx rfl (hb hby at_3) rfl (l' := #[.val (.int p0), .val (.int p1), .val (.int (p1 &&& (3 : Int32))), .unset, .unset, .unset, .unset]) rfl k) ?_
  show own_Fin _ _ _ _ _ _ _ (s₁.setTop (mkF m 4 #[.val (.int p0), .val (.int p1), .val (.int (p1 &&& (3 : Int32))), .unset, .unset, .unset, .unset] []))
  refine own_go (fun _ k => XS.iloadN X0.here hx rfl (hb hby at_4) rfl k) ?_
  show own_Fin _ _ _ _ _ _ _ (s₁.setTop (mkF m 5 #[.val (.int p0), .val (.int p1), .val (.int (p1 &&& (3 : Int32))), .unset, .unset, .unset, .unset] [(.int (p1 &&& (3 : Int32)))]))
  have hk2 : ∀ (T' : State) (L' : List Loc), Stand p l e room_1 s m #[(.int p0), (.int p1)] below meth c T' L' 0 0 → Fr n0 L' → T'.heap = h0 → own_Fin p.tables e below s (own_QL (some (.int (own_f0 p0 p1))) n0) 16 128 (T'.setTop (mkF m 32 #[.val (.int p0), .val (.int p1), .val (.int (p1 &&& (3 : Int32))), .unset, .unset, .unset, .unset] [(.int (if (p1 &&& (3 : Int32)) = (0 : Int32) then (p0 &&& (255 : Int32)) else (if (p1 &&& (3 : Int32)) = (1 : Int32) then (p0 &&& (65535 : Int32)) else (p0 &&& (16777215 : Int32)))))])) := by
    intro T4 L4 X4 N4 e4
    generalize hz5 : (if (p1 &&& (3 : Int32)) = (0 : Int32) then (p0 &&& (255 : Int32)) else (if (p1 &&& (3 : Int32)) = (1 : Int32) then (p0 &&& (65535 : Int32)) else (p0 &&& (16777215 : Int32)))) = z5
    show own_Fin _ _ _ _ _ _ _ (T4.setTop (mkF m 32 #[.val (.int p0), .val (.int p1), .val (.int (p1 &&& (3 : Int32))), .unset, .unset, .unset, .unset] [(.int z5)]))
    refine own_go (fun _ k => XS.istoreN X4.here hx rfl (hb hby at_32) rfl (l' := #[.val (.int p0), .val (.int p1), .val (.int (p1 &&& (3 : Int32))), .val (.int z5), .unset, .unset, .unset]) rfl k) ?_
    show own_Fin _ _ _ _ _ _ _ (T4.setTop (mkF m 33 #[.val (.int p0), .val (.int p1), .val (.int (p1 &&& (3 : Int32))), .val (.int z5), .unset, .unset, .unset] []))
    refine own_go (fun _ k => XS.iloadN X4.here hx rfl (hb hby at_33) rfl k) ?_
    show own_Fin _ _ _ _ _ _ _ (T4.setTop (mkF m 34 #[.val (.int p0), .val (.int p1), .val (.int (p1 &&& (3 : Int32))), .val (.int z5), .unset, .unset, .unset] [(.int z5)]))
    obtain ⟨_, _, ⟨T6, L6, k6, n6⟩, -, X6, ⟨Lc6, hQ6, l6, y6, z6⟩, st6⟩ := Jvm.LawKit.callS X4 hx (y := (⟨"com/example/duanfu/duanfu/model/Tlv", "tagBytes", "(I)[B"⟩ : MethodName)) hown (mvT hZ (hw _ (List.mem_of_getElem? (i := 1) rfl))) (mvT hZ (hw _ (List.mem_of_getElem? (i := 2) rfl))) (mvT hZ (hw _ (List.mem_of_getElem? (i := 3) rfl))) (mvT hZ (hw _ (List.mem_of_getElem? (i := 4) rfl))) (by decide) (backOf (W := 0) (rm1 l Z a0 hw [] z5 h0 n0 Z0) hZ (hw _ (List.mem_of_getElem? (i := 4) rfl)) (hw _ (List.mem_of_getElem? (i := 3) rfl)) (by decide) (by decide)) (g := (mkF m 34 #[.val (.int p0), .val (.int p1), .val (.int (p1 &&& (3 : Int32))), .val (.int z5), .unset, .unset, .unset] [(.int z5)])) rfl (by rw [hml]; rfl) (argsL := [(.int z5)]) (rest := []) (lenOf own_pd38 rfl) rfl (by show 2 * 0 + _ ≤ _; exact Nat.le_of_eq rfl) (hb hby at_34) (fun _ _ => ⟨rfl, e4, (by decide : 0 + 1 ≤ _), (by decide : 0 + 3 ≤ _)⟩)
    dsimp only [Pt.U, Pt.locs, Pt.cells, Pt.slots] at X6 l6 y6 z6 st6 hQ6
    replace y6 : 1 = k6 := y6.symm
    replace z6 : 3 = n6 := z6.symm
    subst y6 z6
    obtain ⟨b6rb, rfl, N6q, Kq6, szq_b6rb, A_b6rb_6⟩ := hQ6
    have N6 : Fr n0 L6 := by rw [l6]; exact Fr.app N4 N6q
    have ge_b6rb : n0 ≤ b6rb := Nat.le_trans Z0 szq_b6rb
    have Z6 : n0 ≤ T6.heap.size := Nat.le_trans Z0 Kq6.1
    refine own_go (fun tg k => st6 tg k) ?_
    show own_Fin _ _ _ _ _ _ _ (T6.setTop (mkF m 37 #[.val (.int p0), .val (.int p1), .val (.int (p1 &&& (3 : Int32))), .val (.int z5), .unset, .unset, .unset] [(.ref b6rb)]))
    refine own_go (fun _ k => XS.astore X6.here hx rfl (hb hby at_37) rfl rfl (l' := #[.val (.int p0), .val (.int p1), .val (.int (p1 &&& (3 : Int32))), .val (.int z5), .val (.ref b6rb), .unset, .unset]) rfl k) ?_
    show own_Fin _ _ _ _ _ _ _ (T6.setTop (mkF m 39 #[.val (.int p0), .val (.int p1), .val (.int (p1 &&& (3 : Int32))), .val (.int z5), .val (.ref b6rb), .unset, .unset] []))
    refine own_go (fun _ k => XS.aload X6.here hx rfl (hb hby at_39) rfl rfl k) ?_
    show own_Fin _ _ _ _ _ _ _ (T6.setTop (mkF m 41 #[.val (.int p0), .val (.int p1), .val (.int (p1 &&& (3 : Int32))), .val (.int z5), .val (.ref b6rb), .unset, .unset] [(.ref b6rb)]))
    refine own_go (fun tg k => own_alen X6 hx hZ rfl A_b6rb_6 (g := (mkF m 41 #[.val (.int p0), .val (.int p1), .val (.int (p1 &&& (3 : Int32))), .val (.int z5), .val (.ref b6rb), .unset, .unset] [(.ref b6rb)])) rfl rfl (hb hby at_41) tg k) ?_
    show own_Fin _ _ _ _ _ _ _ (T6.setTop (mkF m 42 #[.val (.int p0), .val (.int p1), .val (.int (p1 &&& (3 : Int32))), .val (.int z5), .val (.ref b6rb), .unset, .unset] [(.int (own_tl z5))]))
    refine own_go (fun _ k => XS.istore X6.here hx rfl (hb hby at_42) rfl (l' := #[.val (.int p0), .val (.int p1), .val (.int (p1 &&& (3 : Int32))), .val (.int z5), .val (.ref b6rb), .val (.int (own_tl z5)), .unset]) rfl k) ?_
    show own_Fin _ _ _ _ _ _ _ (T6.setTop (mkF m 44 #[.val (.int p0), .val (.int p1), .val (.int (p1 &&& (3 : Int32))), .val (.int z5), .val (.ref b6rb), .val (.int (own_tl z5)), .unset] []))
    by_cases hs7 : (own_tl z5) = (1 : Int32)
    · rw [hs7]
      show own_Fin _ _ _ _ _ _ _ (T6.setTop (mkF m 44 #[.val (.int p0), .val (.int p1), .val (.int (p1 &&& (3 : Int32))), .val (.int z5), .val (.ref b6rb), .val (.int (1 : Int32)), .unset] []))
      rw [hs7] at A_b6rb_6
      refine own_go (fun _ k => XS.iload X6.here hx rfl (hb hby at_44) rfl k) ?_
      show own_Fin _ _ _ _ _ _ _ (T6.setTop (mkF m 46 #[.val (.int p0), .val (.int p1), .val (.int (p1 &&& (3 : Int32))), .val (.int z5), .val (.ref b6rb), .val (.int (1 : Int32)), .unset] [(.int (1 : Int32))]))
      refine own_go (fun _ k => XS.iconst X6.here hx rfl (hb hby at_46) k) ?_
      show own_Fin _ _ _ _ _ _ _ (T6.setTop (mkF m 47 #[.val (.int p0), .val (.int p1), .val (.int (p1 &&& (3 : Int32))), .val (.int z5), .val (.ref b6rb), .val (.int (1 : Int32)), .unset] [(.int (1 : Int32)), (.int (1 : Int32))]))
      refine own_go (fun _ k => XS.icmpNo X6.here hx rfl (hb hby at_47) rfl (flt (by decide)).1 k) ?_
      show own_Fin _ _ _ _ _ _ _ (T6.setTop (mkF m 50 #[.val (.int p0), .val (.int p1), .val (.int (p1 &&& (3 : Int32))), .val (.int z5), .val (.ref b6rb), .val (.int (1 : Int32)), .unset] []))
      refine own_go (fun _ k => XS.iload X6.here hx rfl (hb hby at_50) rfl k) ?_
      show own_Fin _ _ _ _ _ _ _ (T6.setTop (mkF m 52 #[.val (.int p0), .val (.int p1), .val (.int (p1 &&& (3 : Int32))), .val (.int z5), .val (.ref b6rb), .val (.int (1 : Int32)), .unset] [(.int (1 : Int32))]))
      refine own_go (fun _ k => XS.iconst X6.here hx rfl (hb hby at_52) k) ?_
      show own_Fin _ _ _ _ _ _ _ (T6.setTop (mkF m 53 #[.val (.int p0), .val (.int p1), .val (.int (p1 &&& (3 : Int32))), .val (.int z5), .val (.ref b6rb), .val (.int (1 : Int32)), .unset] [(.int (3 : Int32)), (.int (1 : Int32))]))
      refine own_go (fun _ k => XS.icmpYes X6.here hx rfl (pc0 := 53) (pc' := 58) rfl (hb hby at_53) rfl (flt (by decide)).2.2.2 (by decide) (by decide) k) ?_
      show own_Fin _ _ _ _ _ _ _ (T6.setTop (mkF m 58 #[.val (.int p0), .val (.int p1), .val (.int (p1 &&& (3 : Int32))), .val (.int z5), .val (.ref b6rb), .val (.int (1 : Int32)), .unset] []))
      refine own_go (fun _ k => XS.iload X6.here hx rfl (hb hby at_58) rfl k) ?_
      show own_Fin _ _ _ _ _ _ _ (T6.setTop (mkF m 60 #[.val (.int p0), .val (.int p1), .val (.int (p1 &&& (3 : Int32))), .val (.int z5), .val (.ref b6rb), .val (.int (1 : Int32)), .unset] [(.int (1 : Int32))]))
      refine own_go (fun _ k => XS.iconst X6.here hx rfl (hb hby at_60) k) ?_
      show own_Fin _ _ _ _ _ _ _ (T6.setTop (mkF m 61 #[.val (.int p0), .val (.int p1), .val (.int (p1 &&& (3 : Int32))), .val (.int z5), .val (.ref b6rb), .val (.int (1 : Int32)), .unset] [(.int (1 : Int32)), (.int (1 : Int32))]))
      refine own_go (fun _ k => XS.icmpYes X6.here hx rfl (pc0 := 61) (pc' := 73) rfl (hb hby at_61) rfl (flt (by decide)).2.2.2 (by decide) (by decide) k) ?_
      show own_Fin _ _ _ _ _ _ _ (T6.setTop (mkF m 73 #[.val (.int p0), .val (.int p1), .val (.int (p1 &&& (3 : Int32))), .val (.int z5), .val (.ref b6rb), .val (.int (1 : Int32)), .unset] []))
      refine own_go (fun _ k => XS.aload X6.here hx rfl (hb hby at_73) rfl rfl k) ?_
      show own_Fin _ _ _ _ _ _ _ (T6.setTop (mkF m 75 #[.val (.int p0), .val (.int p1), .val (.int (p1 &&& (3 : Int32))), .val (.int z5), .val (.ref b6rb), .val (.int (1 : Int32)), .unset] [(.ref b6rb)]))
      refine own_go (fun _ k => XS.iconst X6.here hx rfl (hb hby at_75) k) ?_
      show own_Fin _ _ _ _ _ _ _ (T6.setTop (mkF m 76 #[.val (.int p0), .val (.int p1), .val (.int (p1 &&& (3 : Int32))), .val (.int z5), .val (.ref b6rb), .val (.int (1 : Int32)), .unset] [(.int (0 : Int32)), (.ref b6rb)]))
      refine own_go (fun tg k => own_baload X6 hx hZ rfl A_b6rb_6 (j := (0 : Int32)) ⟨by decide, by decide⟩ (x := ((own_tb z5) 0)) rfl (g := (mkF m 76 #[.val (.int p0), .val (.int p1), .val (.int (p1 &&& (3 : Int32))), .val (.int z5), .val (.ref b6rb), .val (.int (1 : Int32)), .unset] [(.int (0 : Int32)), (.ref b6rb)])) rfl rfl (hb hby at_76) tg k) ?_
      show own_Fin _ _ _ _ _ _ _ (T6.setTop (mkF m 77 #[.val (.int p0), .val (.int p1), .val (.int (p1 &&& (3 : Int32))), .val (.int z5), .val (.ref b6rb), .val (.int (1 : Int32)), .unset] [(.int ((own_tb z5) 0))]))
      refine own_go (fun _ k => XS.sipush X6.here hx rfl (hb hby at_77) k) ?_
      show own_Fin _ _ _ _ _ _ _ (T6.setTop (mkF m 80 #[.val (.int p0), .val (.int p1), .val (.int (p1 &&& (3 : Int32))), .val (.int z5), .val (.ref b6rb), .val (.int (1 : Int32)), .unset] [(.int (255 : Int32)), (.int ((own_tb z5) 0))]))
      refine own_go (fun _ k => XS.iand X6.here hx rfl (hb hby at_80) rfl k) ?_
      show own_Fin _ _ _ _ _ _ _ (T6.setTop (mkF m 81 #[.val (.int p0), .val (.int p1), .val (.int (p1 &&& (3 : Int32))), .val (.int z5), .val (.ref b6rb), .val (.int (1 : Int32)), .unset] [(.int (((own_tb z5) 0) &&& (255 : Int32)))]))
      refine own_go (fun _ k => XS.istore X6.here hx rfl (hb hby at_81) rfl (l' := #[.val (.int p0), .val (.int p1), .val (.int (p1 &&& (3 : Int32))), .val (.int z5), .val (.ref b6rb), .val (.int (1 : Int32)), .val (.int (((own_tb z5) 0) &&& (255 : Int32)))]) rfl k) ?_
      show own_Fin _ _ _ _ _ _ _ (T6.setTop (mkF m 83 #[.val (.int p0), .val (.int p1), .val (.int (p1 &&& (3 : Int32))), .val (.int z5), .val (.ref b6rb), .val (.int (1 : Int32)), .val (.int (((own_tb z5) 0) &&& (255 : Int32)))] []))
      generalize hz8 : (((own_tb z5) 0) &&& (255 : Int32)) = z8
      show own_Fin _ _ _ _ _ _ _ (T6.setTop (mkF m 83 #[.val (.int p0), .val (.int p1), .val (.int (p1 &&& (3 : Int32))), .val (.int z5), .val (.ref b6rb), .val (.int (1 : Int32)), .val (.int z8)] []))
      refine own_go (fun _ k => XS.iload X6.here hx rfl (hb hby at_83) rfl k) ?_
      show own_Fin _ _ _ _ _ _ _ (T6.setTop (mkF m 85 #[.val (.int p0), .val (.int p1), .val (.int (p1 &&& (3 : Int32))), .val (.int z5), .val (.ref b6rb), .val (.int (1 : Int32)), .val (.int z8)] [(.int (1 : Int32))]))
      refine own_go (fun _ k => XS.iconst X6.here hx rfl (hb hby at_85) k) ?_
      show own_Fin _ _ _ _ _ _ _ (T6.setTop (mkF m 86 #[.val (.int p0), .val (.int p1), .val (.int (p1 &&& (3 : Int32))), .val (.int z5), .val (.ref b6rb), .val (.int (1 : Int32)), .val (.int z8)] [(.int (1 : Int32)), (.int (1 : Int32))]))
      refine own_go (fun _ k => XS.icmpYes X6.here hx rfl (pc0 := 86) (pc' := 105) rfl (hb hby at_86) rfl (flt (by decide)).2.2.2 (by decide) (by decide) k) ?_
      show own_Fin _ _ _ _ _ _ _ (T6.setTop (mkF m 105 #[.val (.int p0), .val (.int p1), .val (.int (p1 &&& (3 : Int32))), .val (.int z5), .val (.ref b6rb), .val (.int (1 : Int32)), .val (.int z8)] []))
      refine own_go (fun _ k => XS.iload X6.here hx rfl (hb hby at_105) rfl k) ?_
      show own_Fin _ _ _ _ _ _ _ (T6.setTop (mkF m 107 #[.val (.int p0), .val (.int p1), .val (.int (p1 &&& (3 : Int32))), .val (.int z5), .val (.ref b6rb), .val (.int (1 : Int32)), .val (.int z8)] [(.int (1 : Int32))]))
      refine own_go (fun _ k => XS.iconst X6.here hx rfl (hb hby at_107) k) ?_
      show own_Fin _ _ _ _ _ _ _ (T6.setTop (mkF m 108 #[.val (.int p0), .val (.int p1), .val (.int (p1 &&& (3 : Int32))), .val (.int z5), .val (.ref b6rb), .val (.int (1 : Int32)), .val (.int z8)] [(.int (2 : Int32)), (.int (1 : Int32))]))
      refine own_go (fun _ k => XS.icmpYes X6.here hx rfl (pc0 := 108) (pc' := 127) rfl (hb hby at_108) rfl (flt (by decide)).2.2.2 (by decide) (by decide) k) ?_
      show own_Fin _ _ _ _ _ _ _ (T6.setTop (mkF m 127 #[.val (.int p0), .val (.int p1), .val (.int (p1 &&& (3 : Int32))), .val (.int z5), .val (.ref b6rb), .val (.int (1 : Int32)), .val (.int z8)] []))
      refine own_go (fun _ k => XS.iload X6.here hx rfl (hb hby at_127) rfl k) ?_
      show own_Fin _ _ _ _ _ _ _ (T6.setTop (mkF m 129 #[.val (.int p0), .val (.int p1), .val (.int (p1 &&& (3 : Int32))), .val (.int z5), .val (.ref b6rb), .val (.int (1 : Int32)), .val (.int z8)] [(.int z8)]))
      refine own_go (fun _ k => XS.iloadN X6.here hx rfl (hb hby at_129) rfl k) ?_
      show own_Fin _ _ _ _ _ _ _ (T6.setTop (mkF m 130 #[.val (.int p0), .val (.int p1), .val (.int (p1 &&& (3 : Int32))), .val (.int z5), .val (.ref b6rb), .val (.int (1 : Int32)), .val (.int z8)] [(.int z5), (.int z8)]))
      by_cases hc9 : z8 = z5
      · refine own_go (fun _ k => XS.icmpNo X6.here hx rfl (hb hby at_130) rfl (teq hc9).2 k) ?_
        show own_Fin _ _ _ _ _ _ _ (T6.setTop (mkF m 133 #[.val (.int p0), .val (.int p1), .val (.int (p1 &&& (3 : Int32))), .val (.int z5), .val (.ref b6rb), .val (.int (1 : Int32)), .val (.int z8)] []))
        refine own_go (fun _ k => XS.iconst X6.here hx rfl (hb hby at_133) k) ?_
        show own_Fin _ _ _ _ _ _ _ (T6.setTop (mkF m 134 #[.val (.int p0), .val (.int p1), .val (.int (p1 &&& (3 : Int32))), .val (.int z5), .val (.ref b6rb), .val (.int (1 : Int32)), .val (.int z8)] [(.int (1 : Int32))]))
        refine own_go (fun _ k => XS.goto X6.here hx rfl (pc0 := 134) (pc' := 138) rfl (hb hby at_134) (by decide) (by decide) k) ?_
        show own_Fin _ _ _ _ _ _ _ (T6.setTop (mkF m 138 #[.val (.int p0), .val (.int p1), .val (.int (p1 &&& (3 : Int32))), .val (.int z5), .val (.ref b6rb), .val (.int (1 : Int32)), .val (.int z8)] [(.int (1 : Int32))]))
        refine own_ret X6 hx hlk Bd.returns rfl (Or.inl ⟨rfl, by simp, _, rfl⟩) (hb hby at_138) (Nat.le_of_ble_eq_true rfl) (Nat.le_of_ble_eq_true rfl) ?_
        exact ⟨(own_lf_own_f0_1 (p0 := p0) (p1 := p1) hz5 hz8 hs7 hc9), N6, trivial⟩
      · refine own_go (fun _ k => XS.icmpYes X6.here hx rfl (pc0 := 130) (pc' := 137) rfl (hb hby at_130) rfl (feq hc9).2 (by decide) (by decide) k) ?_
        show own_Fin _ _ _ _ _ _ _ (T6.setTop (mkF m 137 #[.val (.int p0), .val (.int p1), .val (.int (p1 &&& (3 : Int32))), .val (.int z5), .val (.ref b6rb), .val (.int (1 : Int32)), .val (.int z8)] []))
        refine own_go (fun _ k => XS.iconst X6.here hx rfl (hb hby at_137) k) ?_
        show own_Fin _ _ _ _ _ _ _ (T6.setTop (mkF m 138 #[.val (.int p0), .val (.int p1), .val (.int (p1 &&& (3 : Int32))), .val (.int z5), .val (.ref b6rb), .val (.int (1 : Int32)), .val (.int z8)] [(.int (0 : Int32))]))
        refine own_ret X6 hx hlk Bd.returns rfl (Or.inl ⟨rfl, by simp, _, rfl⟩) (hb hby at_138) (Nat.le_of_ble_eq_true rfl) (Nat.le_of_ble_eq_true rfl) ?_
        exact ⟨(own_lf_own_f0_2 (p0 := p0) (p1 := p1) hz5 hz8 hs7 hc9), N6, trivial⟩
    · by_cases hs10 : (own_tl z5) = (2 : Int32)
      · rw [hs10]
        show own_Fin _ _ _ _ _ _ _ (T6.setTop (mkF m 44 #[.val (.int p0), .val (.int p1), .val (.int (p1 &&& (3 : Int32))), .val (.int z5), .val (.ref b6rb), .val (.int (2 : Int32)), .unset] []))
        rw [hs10] at A_b6rb_6
        refine own_go (fun _ k => XS.iload X6.here hx rfl (hb hby at_44) rfl k) ?_
        show own_Fin _ _ _ _ _ _ _ (T6.setTop (mkF m 46 #[.val (.int p0), .val (.int p1), .val (.int (p1 &&& (3 : Int32))), .val (.int z5), .val (.ref b6rb), .val (.int (2 : Int32)), .unset] [(.int (2 : Int32))]))
        refine own_go (fun _ k => XS.iconst X6.here hx rfl (hb hby at_46) k) ?_
        show own_Fin _ _ _ _ _ _ _ (T6.setTop (mkF m 47 #[.val (.int p0), .val (.int p1), .val (.int (p1 &&& (3 : Int32))), .val (.int z5), .val (.ref b6rb), .val (.int (2 : Int32)), .unset] [(.int (1 : Int32)), (.int (2 : Int32))]))
        refine own_go (fun _ k => XS.icmpNo X6.here hx rfl (hb hby at_47) rfl (flt (by decide)).1 k) ?_
        show own_Fin _ _ _ _ _ _ _ (T6.setTop (mkF m 50 #[.val (.int p0), .val (.int p1), .val (.int (p1 &&& (3 : Int32))), .val (.int z5), .val (.ref b6rb), .val (.int (2 : Int32)), .unset] []))
        refine own_go (fun _ k => XS.iload X6.here hx rfl (hb hby at_50) rfl k) ?_
        show own_Fin _ _ _ _ _ _ _ (T6.setTop (mkF m 52 #[.val (.int p0), .val (.int p1), .val (.int (p1 &&& (3 : Int32))), .val (.int z5), .val (.ref b6rb), .val (.int (2 : Int32)), .unset] [(.int (2 : Int32))]))
        refine own_go (fun _ k => XS.iconst X6.here hx rfl (hb hby at_52) k) ?_
        show own_Fin _ _ _ _ _ _ _ (T6.setTop (mkF m 53 #[.val (.int p0), .val (.int p1), .val (.int (p1 &&& (3 : Int32))), .val (.int z5), .val (.ref b6rb), .val (.int (2 : Int32)), .unset] [(.int (3 : Int32)), (.int (2 : Int32))]))
        refine own_go (fun _ k => XS.icmpYes X6.here hx rfl (pc0 := 53) (pc' := 58) rfl (hb hby at_53) rfl (flt (by decide)).2.2.2 (by decide) (by decide) k) ?_
        show own_Fin _ _ _ _ _ _ _ (T6.setTop (mkF m 58 #[.val (.int p0), .val (.int p1), .val (.int (p1 &&& (3 : Int32))), .val (.int z5), .val (.ref b6rb), .val (.int (2 : Int32)), .unset] []))
        refine own_go (fun _ k => XS.iload X6.here hx rfl (hb hby at_58) rfl k) ?_
        show own_Fin _ _ _ _ _ _ _ (T6.setTop (mkF m 60 #[.val (.int p0), .val (.int p1), .val (.int (p1 &&& (3 : Int32))), .val (.int z5), .val (.ref b6rb), .val (.int (2 : Int32)), .unset] [(.int (2 : Int32))]))
        refine own_go (fun _ k => XS.iconst X6.here hx rfl (hb hby at_60) k) ?_
        show own_Fin _ _ _ _ _ _ _ (T6.setTop (mkF m 61 #[.val (.int p0), .val (.int p1), .val (.int (p1 &&& (3 : Int32))), .val (.int z5), .val (.ref b6rb), .val (.int (2 : Int32)), .unset] [(.int (1 : Int32)), (.int (2 : Int32))]))
        refine own_go (fun _ k => XS.icmpNo X6.here hx rfl (hb hby at_61) rfl (tlt (by decide)).2.2.2 k) ?_
        show own_Fin _ _ _ _ _ _ _ (T6.setTop (mkF m 64 #[.val (.int p0), .val (.int p1), .val (.int (p1 &&& (3 : Int32))), .val (.int z5), .val (.ref b6rb), .val (.int (2 : Int32)), .unset] []))
        refine own_go (fun _ k => XS.aload X6.here hx rfl (hb hby at_64) rfl rfl k) ?_
        show own_Fin _ _ _ _ _ _ _ (T6.setTop (mkF m 66 #[.val (.int p0), .val (.int p1), .val (.int (p1 &&& (3 : Int32))), .val (.int z5), .val (.ref b6rb), .val (.int (2 : Int32)), .unset] [(.ref b6rb)]))
        refine own_go (fun _ k => XS.iconst X6.here hx rfl (hb hby at_66) k) ?_
        show own_Fin _ _ _ _ _ _ _ (T6.setTop (mkF m 67 #[.val (.int p0), .val (.int p1), .val (.int (p1 &&& (3 : Int32))), .val (.int z5), .val (.ref b6rb), .val (.int (2 : Int32)), .unset] [(.int (0 : Int32)), (.ref b6rb)]))
        refine own_go (fun tg k => own_baload X6 hx hZ rfl A_b6rb_6 (j := (0 : Int32)) ⟨by decide, by decide⟩ (x := ((own_tb z5) 0)) rfl (g := (mkF m 67 #[.val (.int p0), .val (.int p1), .val (.int (p1 &&& (3 : Int32))), .val (.int z5), .val (.ref b6rb), .val (.int (2 : Int32)), .unset] [(.int (0 : Int32)), (.ref b6rb)])) rfl rfl (hb hby at_67) tg k) ?_
        show own_Fin _ _ _ _ _ _ _ (T6.setTop (mkF m 68 #[.val (.int p0), .val (.int p1), .val (.int (p1 &&& (3 : Int32))), .val (.int z5), .val (.ref b6rb), .val (.int (2 : Int32)), .unset] [(.int ((own_tb z5) 0))]))
        by_cases hc11 : ((own_tb z5) 0) = (0 : Int32)
        · refine own_go (fun _ k => XS.ifNo X6.here hx rfl (hb hby at_68) rfl ((if0 _ _).trans (teq hc11).2) k) ?_
          show own_Fin _ _ _ _ _ _ _ (T6.setTop (mkF m 71 #[.val (.int p0), .val (.int p1), .val (.int (p1 &&& (3 : Int32))), .val (.int z5), .val (.ref b6rb), .val (.int (2 : Int32)), .unset] []))
          refine own_go (fun _ k => XS.iconst X6.here hx rfl (hb hby at_71) k) ?_
          show own_Fin _ _ _ _ _ _ _ (T6.setTop (mkF m 72 #[.val (.int p0), .val (.int p1), .val (.int (p1 &&& (3 : Int32))), .val (.int z5), .val (.ref b6rb), .val (.int (2 : Int32)), .unset] [(.int (0 : Int32))]))
          refine own_ret X6 hx hlk Bd.returns rfl (Or.inl ⟨rfl, by simp, _, rfl⟩) (hb hby at_72) (Nat.le_of_ble_eq_true rfl) (Nat.le_of_ble_eq_true rfl) ?_
          exact ⟨(own_lf_own_f0_3 (p0 := p0) (p1 := p1) hz5 hs7 hs10 hc11), N6, trivial⟩
        · refine own_go (fun _ k => XS.ifYes X6.here hx rfl (pc0 := 68) (pc' := 73) rfl (hb hby at_68) rfl ((if0 _ _).trans (feq hc11).2) (by decide) (by decide) k) ?_
          show own_Fin _ _ _ _ _ _ _ (T6.setTop (mkF m 73 #[.val (.int p0), .val (.int p1), .val (.int (p1 &&& (3 : Int32))), .val (.int z5), .val (.ref b6rb), .val (.int (2 : Int32)), .unset] []))
          refine own_go (fun _ k => XS.aload X6.here hx rfl (hb hby at_73) rfl rfl k) ?_
          show own_Fin _ _ _ _ _ _ _ (T6.setTop (mkF m 75 #[.val (.int p0), .val (.int p1), .val (.int (p1 &&& (3 : Int32))), .val (.int z5), .val (.ref b6rb), .val (.int (2 : Int32)), .unset] [(.ref b6rb)]))
          refine own_go (fun _ k => XS.iconst X6.here hx rfl (hb hby at_75) k) ?_
          show own_Fin _ _ _ _ _ _ _ (T6.setTop (mkF m 76 #[.val (.int p0), .val (.int p1), .val (.int (p1 &&& (3 : Int32))), .val (.int z5), .val (.ref b6rb), .val (.int (2 : Int32)), .unset] [(.int (0 : Int32)), (.ref b6rb)]))
          refine own_go (fun tg k => own_baload X6 hx hZ rfl A_b6rb_6 (j := (0 : Int32)) ⟨by decide, by decide⟩ (x := ((own_tb z5) 0)) rfl (g := (mkF m 76 #[.val (.int p0), .val (.int p1), .val (.int (p1 &&& (3 : Int32))), .val (.int z5), .val (.ref b6rb), .val (.int (2 : Int32)), .unset] [(.int (0 : Int32)), (.ref b6rb)])) rfl rfl (hb hby at_76) tg k) ?_
          show own_Fin _ _ _ _ _ _ _ (T6.setTop (mkF m 77 #[.val (.int p0), .val (.int p1), .val (.int (p1 &&& (3 : Int32))), .val (.int z5), .val (.ref b6rb), .val (.int (2 : Int32)), .unset] [(.int ((own_tb z5) 0))]))
          refine own_go (fun _ k => XS.sipush X6.here hx rfl (hb hby at_77) k) ?_
          show own_Fin _ _ _ _ _ _ _ (T6.setTop (mkF m 80 #[.val (.int p0), .val (.int p1), .val (.int (p1 &&& (3 : Int32))), .val (.int z5), .val (.ref b6rb), .val (.int (2 : Int32)), .unset] [(.int (255 : Int32)), (.int ((own_tb z5) 0))]))
          refine own_go (fun _ k => XS.iand X6.here hx rfl (hb hby at_80) rfl k) ?_
          show own_Fin _ _ _ _ _ _ _ (T6.setTop (mkF m 81 #[.val (.int p0), .val (.int p1), .val (.int (p1 &&& (3 : Int32))), .val (.int z5), .val (.ref b6rb), .val (.int (2 : Int32)), .unset] [(.int (((own_tb z5) 0) &&& (255 : Int32)))]))
          refine own_go (fun _ k => XS.istore X6.here hx rfl (hb hby at_81) rfl (l' := #[.val (.int p0), .val (.int p1), .val (.int (p1 &&& (3 : Int32))), .val (.int z5), .val (.ref b6rb), .val (.int (2 : Int32)), .val (.int (((own_tb z5) 0) &&& (255 : Int32)))]) rfl k) ?_
          show own_Fin _ _ _ _ _ _ _ (T6.setTop (mkF m 83 #[.val (.int p0), .val (.int p1), .val (.int (p1 &&& (3 : Int32))), .val (.int z5), .val (.ref b6rb), .val (.int (2 : Int32)), .val (.int (((own_tb z5) 0) &&& (255 : Int32)))] []))
          generalize hz12 : (((own_tb z5) 0) &&& (255 : Int32)) = z12
          show own_Fin _ _ _ _ _ _ _ (T6.setTop (mkF m 83 #[.val (.int p0), .val (.int p1), .val (.int (p1 &&& (3 : Int32))), .val (.int z5), .val (.ref b6rb), .val (.int (2 : Int32)), .val (.int z12)] []))
          refine own_go (fun _ k => XS.iload X6.here hx rfl (hb hby at_83) rfl k) ?_
          show own_Fin _ _ _ _ _ _ _ (T6.setTop (mkF m 85 #[.val (.int p0), .val (.int p1), .val (.int (p1 &&& (3 : Int32))), .val (.int z5), .val (.ref b6rb), .val (.int (2 : Int32)), .val (.int z12)] [(.int (2 : Int32))]))
          refine own_go (fun _ k => XS.iconst X6.here hx rfl (hb hby at_85) k) ?_
          show own_Fin _ _ _ _ _ _ _ (T6.setTop (mkF m 86 #[.val (.int p0), .val (.int p1), .val (.int (p1 &&& (3 : Int32))), .val (.int z5), .val (.ref b6rb), .val (.int (2 : Int32)), .val (.int z12)] [(.int (1 : Int32)), (.int (2 : Int32))]))
          refine own_go (fun _ k => XS.icmpNo X6.here hx rfl (hb hby at_86) rfl (tlt (by decide)).2.2.2 k) ?_
          show own_Fin _ _ _ _ _ _ _ (T6.setTop (mkF m 89 #[.val (.int p0), .val (.int p1), .val (.int (p1 &&& (3 : Int32))), .val (.int z5), .val (.ref b6rb), .val (.int (2 : Int32)), .val (.int z12)] []))
          refine own_go (fun _ k => XS.iload X6.here hx rfl (hb hby at_89) rfl k) ?_
          show own_Fin _ _ _ _ _ _ _ (T6.setTop (mkF m 91 #[.val (.int p0), .val (.int p1), .val (.int (p1 &&& (3 : Int32))), .val (.int z5), .val (.ref b6rb), .val (.int (2 : Int32)), .val (.int z12)] [(.int z12)]))
          refine own_go (fun _ k => XS.bipush X6.here hx rfl (hb hby at_91) k) ?_
          show own_Fin _ _ _ _ _ _ _ (T6.setTop (mkF m 93 #[.val (.int p0), .val (.int p1), .val (.int (p1 &&& (3 : Int32))), .val (.int z5), .val (.ref b6rb), .val (.int (2 : Int32)), .val (.int z12)] [(.int (8 : Int32)), (.int z12)]))
          refine own_go (fun _ k => XS.ishl X6.here hx rfl (hb hby at_93) rfl k) ?_
          show own_Fin _ _ _ _ _ _ _ (T6.setTop (mkF m 94 #[.val (.int p0), .val (.int p1), .val (.int (p1 &&& (3 : Int32))), .val (.int z5), .val (.ref b6rb), .val (.int (2 : Int32)), .val (.int z12)] [(.int (own_ishl z12 (8 : Int32)))]))
          refine own_go (fun _ k => XS.aload X6.here hx rfl (hb hby at_94) rfl rfl k) ?_
          show own_Fin _ _ _ _ _ _ _ (T6.setTop (mkF m 96 #[.val (.int p0), .val (.int p1), .val (.int (p1 &&& (3 : Int32))), .val (.int z5), .val (.ref b6rb), .val (.int (2 : Int32)), .val (.int z12)] [(.ref b6rb), (.int (own_ishl z12 (8 : Int32)))]))
          refine own_go (fun _ k => XS.iconst X6.here hx rfl (hb hby at_96) k) ?_
          show own_Fin _ _ _ _ _ _ _ (T6.setTop (mkF m 97 #[.val (.int p0), .val (.int p1), .val (.int (p1 &&& (3 : Int32))), .val (.int z5), .val (.ref b6rb), .val (.int (2 : Int32)), .val (.int z12)] [(.int (1 : Int32)), (.ref b6rb), (.int (own_ishl z12 (8 : Int32)))]))
          refine own_go (fun tg k => own_baload X6 hx hZ rfl A_b6rb_6 (j := (1 : Int32)) ⟨by decide, by decide⟩ (x := ((own_tb z5) 1)) rfl (g := (mkF m 97 #[.val (.int p0), .val (.int p1), .val (.int (p1 &&& (3 : Int32))), .val (.int z5), .val (.ref b6rb), .val (.int (2 : Int32)), .val (.int z12)] [(.int (1 : Int32)), (.ref b6rb), (.int (own_ishl z12 (8 : Int32)))])) rfl rfl (hb hby at_97) tg k) ?_
          show own_Fin _ _ _ _ _ _ _ (T6.setTop (mkF m 98 #[.val (.int p0), .val (.int p1), .val (.int (p1 &&& (3 : Int32))), .val (.int z5), .val (.ref b6rb), .val (.int (2 : Int32)), .val (.int z12)] [(.int ((own_tb z5) 1)), (.int (own_ishl z12 (8 : Int32)))]))
          refine own_go (fun _ k => XS.sipush X6.here hx rfl (hb hby at_98) k) ?_
          show own_Fin _ _ _ _ _ _ _ (T6.setTop (mkF m 101 #[.val (.int p0), .val (.int p1), .val (.int (p1 &&& (3 : Int32))), .val (.int z5), .val (.ref b6rb), .val (.int (2 : Int32)), .val (.int z12)] [(.int (255 : Int32)), (.int ((own_tb z5) 1)), (.int (own_ishl z12 (8 : Int32)))]))
          refine own_go (fun _ k => XS.iand X6.here hx rfl (hb hby at_101) rfl k) ?_
          show own_Fin _ _ _ _ _ _ _ (T6.setTop (mkF m 102 #[.val (.int p0), .val (.int p1), .val (.int (p1 &&& (3 : Int32))), .val (.int z5), .val (.ref b6rb), .val (.int (2 : Int32)), .val (.int z12)] [(.int (((own_tb z5) 1) &&& (255 : Int32))), (.int (own_ishl z12 (8 : Int32)))]))
          refine own_go (fun _ k => XS.ior X6.here hx rfl (hb hby at_102) rfl k) ?_
          show own_Fin _ _ _ _ _ _ _ (T6.setTop (mkF m 103 #[.val (.int p0), .val (.int p1), .val (.int (p1 &&& (3 : Int32))), .val (.int z5), .val (.ref b6rb), .val (.int (2 : Int32)), .val (.int z12)] [(.int ((own_ishl z12 (8 : Int32)) ||| (((own_tb z5) 1) &&& (255 : Int32))))]))
          refine own_go (fun _ k => XS.istore X6.here hx rfl (hb hby at_103) rfl (l' := #[.val (.int p0), .val (.int p1), .val (.int (p1 &&& (3 : Int32))), .val (.int z5), .val (.ref b6rb), .val (.int (2 : Int32)), .val (.int ((own_ishl z12 (8 : Int32)) ||| (((own_tb z5) 1) &&& (255 : Int32))))]) rfl k) ?_
          show own_Fin _ _ _ _ _ _ _ (T6.setTop (mkF m 105 #[.val (.int p0), .val (.int p1), .val (.int (p1 &&& (3 : Int32))), .val (.int z5), .val (.ref b6rb), .val (.int (2 : Int32)), .val (.int ((own_ishl z12 (8 : Int32)) ||| (((own_tb z5) 1) &&& (255 : Int32))))] []))
          generalize hz13 : ((own_ishl z12 (8 : Int32)) ||| (((own_tb z5) 1) &&& (255 : Int32))) = z13
          show own_Fin _ _ _ _ _ _ _ (T6.setTop (mkF m 105 #[.val (.int p0), .val (.int p1), .val (.int (p1 &&& (3 : Int32))), .val (.int z5), .val (.ref b6rb), .val (.int (2 : Int32)), .val (.int z13)] []))
          refine own_go (fun _ k => XS.iload X6.here hx rfl (hb hby at_105) rfl k) ?_
          show own_Fin _ _ _ _ _ _ _ (T6.setTop (mkF m 107 #[.val (.int p0), .val (.int p1), .val (.int (p1 &&& (3 : Int32))), .val (.int z5), .val (.ref b6rb), .val (.int (2 : Int32)), .val (.int z13)] [(.int (2 : Int32))]))
          refine own_go (fun _ k => XS.iconst X6.here hx rfl (hb hby at_107) k) ?_
          show own_Fin _ _ _ _ _ _ _ (T6.setTop (mkF m 108 #[.val (.int p0), .val (.int p1), .val (.int (p1 &&& (3 : Int32))), .val (.int z5), .val (.ref b6rb), .val (.int (2 : Int32)), .val (.int z13)] [(.int (2 : Int32)), (.int (2 : Int32))]))
          refine own_go (fun _ k => XS.icmpYes X6.here hx rfl (pc0 := 108) (pc' := 127) rfl (hb hby at_108) rfl (flt (by decide)).2.2.2 (by decide) (by decide) k) ?_
          show own_Fin _ _ _ _ _ _ _ (T6.setTop (mkF m 127 #[.val (.int p0), .val (.int p1), .val (.int (p1 &&& (3 : Int32))), .val (.int z5), .val (.ref b6rb), .val (.int (2 : Int32)), .val (.int z13)] []))
          refine own_go (fun _ k => XS.iload X6.here hx rfl (hb hby at_127) rfl k) ?_
          show own_Fin _ _ _ _ _ _ _ (T6.setTop (mkF m 129 #[.val (.int p0), .val (.int p1), .val (.int (p1 &&& (3 : Int32))), .val (.int z5), .val (.ref b6rb), .val (.int (2 : Int32)), .val (.int z13)] [(.int z13)]))
          refine own_go (fun _ k => XS.iloadN X6.here hx rfl (hb hby at_129) rfl k) ?_
          show own_Fin _ _ _ _ _ _ _ (T6.setTop (mkF m 130 #[.val (.int p0), .val (.int p1), .val (.int (p1 &&& (3 : Int32))), .val (.int z5), .val (.ref b6rb), .val (.int (2 : Int32)), .val (.int z13)] [(.int z5), (.int z13)]))
          by_cases hc14 : z13 = z5
          · refine own_go (fun _ k => XS.icmpNo X6.here hx rfl (hb hby at_130) rfl (teq hc14).2 k) ?_
            show own_Fin _ _ _ _ _ _ _ (T6.setTop (mkF m 133 #[.val (.int p0), .val (.int p1), .val (.int (p1 &&& (3 : Int32))), .val (.int z5), .val (.ref b6rb), .val (.int (2 : Int32)), .val (.int z13)] []))
            refine own_go (fun _ k => XS.iconst X6.here hx rfl (hb hby at_133) k) ?_
            show own_Fin _ _ _ _ _ _ _ (T6.setTop (mkF m 134 #[.val (.int p0), .val (.int p1), .val (.int (p1 &&& (3 : Int32))), .val (.int z5), .val (.ref b6rb), .val (.int (2 : Int32)), .val (.int z13)] [(.int (1 : Int32))]))
            refine own_go (fun _ k => XS.goto X6.here hx rfl (pc0 := 134) (pc' := 138) rfl (hb hby at_134) (by decide) (by decide) k) ?_
            show own_Fin _ _ _ _ _ _ _ (T6.setTop (mkF m 138 #[.val (.int p0), .val (.int p1), .val (.int (p1 &&& (3 : Int32))), .val (.int z5), .val (.ref b6rb), .val (.int (2 : Int32)), .val (.int z13)] [(.int (1 : Int32))]))
            refine own_ret X6 hx hlk Bd.returns rfl (Or.inl ⟨rfl, by simp, _, rfl⟩) (hb hby at_138) (Nat.le_of_ble_eq_true rfl) (Nat.le_of_ble_eq_true rfl) ?_
            exact ⟨(own_lf_own_f0_4 (p0 := p0) (p1 := p1) hz5 hz12 hz13 hs7 hs10 hc11 hc14), N6, trivial⟩
          · refine own_go (fun _ k => XS.icmpYes X6.here hx rfl (pc0 := 130) (pc' := 137) rfl (hb hby at_130) rfl (feq hc14).2 (by decide) (by decide) k) ?_
            show own_Fin _ _ _ _ _ _ _ (T6.setTop (mkF m 137 #[.val (.int p0), .val (.int p1), .val (.int (p1 &&& (3 : Int32))), .val (.int z5), .val (.ref b6rb), .val (.int (2 : Int32)), .val (.int z13)] []))
            refine own_go (fun _ k => XS.iconst X6.here hx rfl (hb hby at_137) k) ?_
            show own_Fin _ _ _ _ _ _ _ (T6.setTop (mkF m 138 #[.val (.int p0), .val (.int p1), .val (.int (p1 &&& (3 : Int32))), .val (.int z5), .val (.ref b6rb), .val (.int (2 : Int32)), .val (.int z13)] [(.int (0 : Int32))]))
            refine own_ret X6 hx hlk Bd.returns rfl (Or.inl ⟨rfl, by simp, _, rfl⟩) (hb hby at_138) (Nat.le_of_ble_eq_true rfl) (Nat.le_of_ble_eq_true rfl) ?_
            exact ⟨(own_lf_own_f0_5 (p0 := p0) (p1 := p1) hz5 hz12 hz13 hs7 hs10 hc11 hc14), N6, trivial⟩
      · have hs15 : (own_tl z5) = (3 : Int32) := own_t3 _ hs7 hs10
        rw [hs15]
        show own_Fin _ _ _ _ _ _ _ (T6.setTop (mkF m 44 #[.val (.int p0), .val (.int p1), .val (.int (p1 &&& (3 : Int32))), .val (.int z5), .val (.ref b6rb), .val (.int (3 : Int32)), .unset] []))
        rw [hs15] at A_b6rb_6
        refine own_go (fun _ k => XS.iload X6.here hx rfl (hb hby at_44) rfl k) ?_
        show own_Fin _ _ _ _ _ _ _ (T6.setTop (mkF m 46 #[.val (.int p0), .val (.int p1), .val (.int (p1 &&& (3 : Int32))), .val (.int z5), .val (.ref b6rb), .val (.int (3 : Int32)), .unset] [(.int (3 : Int32))]))
        refine own_go (fun _ k => XS.iconst X6.here hx rfl (hb hby at_46) k) ?_
        show own_Fin _ _ _ _ _ _ _ (T6.setTop (mkF m 47 #[.val (.int p0), .val (.int p1), .val (.int (p1 &&& (3 : Int32))), .val (.int z5), .val (.ref b6rb), .val (.int (3 : Int32)), .unset] [(.int (1 : Int32)), (.int (3 : Int32))]))
        refine own_go (fun _ k => XS.icmpNo X6.here hx rfl (hb hby at_47) rfl (flt (by decide)).1 k) ?_
        show own_Fin _ _ _ _ _ _ _ (T6.setTop (mkF m 50 #[.val (.int p0), .val (.int p1), .val (.int (p1 &&& (3 : Int32))), .val (.int z5), .val (.ref b6rb), .val (.int (3 : Int32)), .unset] []))
        refine own_go (fun _ k => XS.iload X6.here hx rfl (hb hby at_50) rfl k) ?_
        show own_Fin _ _ _ _ _ _ _ (T6.setTop (mkF m 52 #[.val (.int p0), .val (.int p1), .val (.int (p1 &&& (3 : Int32))), .val (.int z5), .val (.ref b6rb), .val (.int (3 : Int32)), .unset] [(.int (3 : Int32))]))
        refine own_go (fun _ k => XS.iconst X6.here hx rfl (hb hby at_52) k) ?_
        show own_Fin _ _ _ _ _ _ _ (T6.setTop (mkF m 53 #[.val (.int p0), .val (.int p1), .val (.int (p1 &&& (3 : Int32))), .val (.int z5), .val (.ref b6rb), .val (.int (3 : Int32)), .unset] [(.int (3 : Int32)), (.int (3 : Int32))]))
        refine own_go (fun _ k => XS.icmpYes X6.here hx rfl (pc0 := 53) (pc' := 58) rfl (hb hby at_53) rfl (flt (by decide)).2.2.2 (by decide) (by decide) k) ?_
        show own_Fin _ _ _ _ _ _ _ (T6.setTop (mkF m 58 #[.val (.int p0), .val (.int p1), .val (.int (p1 &&& (3 : Int32))), .val (.int z5), .val (.ref b6rb), .val (.int (3 : Int32)), .unset] []))
        refine own_go (fun _ k => XS.iload X6.here hx rfl (hb hby at_58) rfl k) ?_
        show own_Fin _ _ _ _ _ _ _ (T6.setTop (mkF m 60 #[.val (.int p0), .val (.int p1), .val (.int (p1 &&& (3 : Int32))), .val (.int z5), .val (.ref b6rb), .val (.int (3 : Int32)), .unset] [(.int (3 : Int32))]))
        refine own_go (fun _ k => XS.iconst X6.here hx rfl (hb hby at_60) k) ?_
        show own_Fin _ _ _ _ _ _ _ (T6.setTop (mkF m 61 #[.val (.int p0), .val (.int p1), .val (.int (p1 &&& (3 : Int32))), .val (.int z5), .val (.ref b6rb), .val (.int (3 : Int32)), .unset] [(.int (1 : Int32)), (.int (3 : Int32))]))
        refine own_go (fun _ k => XS.icmpNo X6.here hx rfl (hb hby at_61) rfl (tlt (by decide)).2.2.2 k) ?_
        show own_Fin _ _ _ _ _ _ _ (T6.setTop (mkF m 64 #[.val (.int p0), .val (.int p1), .val (.int (p1 &&& (3 : Int32))), .val (.int z5), .val (.ref b6rb), .val (.int (3 : Int32)), .unset] []))
        refine own_go (fun _ k => XS.aload X6.here hx rfl (hb hby at_64) rfl rfl k) ?_
        show own_Fin _ _ _ _ _ _ _ (T6.setTop (mkF m 66 #[.val (.int p0), .val (.int p1), .val (.int (p1 &&& (3 : Int32))), .val (.int z5), .val (.ref b6rb), .val (.int (3 : Int32)), .unset] [(.ref b6rb)]))
        refine own_go (fun _ k => XS.iconst X6.here hx rfl (hb hby at_66) k) ?_
        show own_Fin _ _ _ _ _ _ _ (T6.setTop (mkF m 67 #[.val (.int p0), .val (.int p1), .val (.int (p1 &&& (3 : Int32))), .val (.int z5), .val (.ref b6rb), .val (.int (3 : Int32)), .unset] [(.int (0 : Int32)), (.ref b6rb)]))
        refine own_go (fun tg k => own_baload X6 hx hZ rfl A_b6rb_6 (j := (0 : Int32)) ⟨by decide, by decide⟩ (x := ((own_tb z5) 0)) rfl (g := (mkF m 67 #[.val (.int p0), .val (.int p1), .val (.int (p1 &&& (3 : Int32))), .val (.int z5), .val (.ref b6rb), .val (.int (3 : Int32)), .unset] [(.int (0 : Int32)), (.ref b6rb)])) rfl rfl (hb hby at_67) tg k) ?_
        show own_Fin _ _ _ _ _ _ _ (T6.setTop (mkF m 68 #[.val (.int p0), .val (.int p1), .val (.int (p1 &&& (3 : Int32))), .val (.int z5), .val (.ref b6rb), .val (.int (3 : Int32)), .unset] [(.int ((own_tb z5) 0))]))
        by_cases hc16 : ((own_tb z5) 0) = (0 : Int32)
        · refine own_go (fun _ k => XS.ifNo X6.here hx rfl (hb hby at_68) rfl ((if0 _ _).trans (teq hc16).2) k) ?_
          show own_Fin _ _ _ _ _ _ _ (T6.setTop (mkF m 71 #[.val (.int p0), .val (.int p1), .val (.int (p1 &&& (3 : Int32))), .val (.int z5), .val (.ref b6rb), .val (.int (3 : Int32)), .unset] []))
          refine own_go (fun _ k => XS.iconst X6.here hx rfl (hb hby at_71) k) ?_
          show own_Fin _ _ _ _ _ _ _ (T6.setTop (mkF m 72 #[.val (.int p0), .val (.int p1), .val (.int (p1 &&& (3 : Int32))), .val (.int z5), .val (.ref b6rb), .val (.int (3 : Int32)), .unset] [(.int (0 : Int32))]))
          refine own_ret X6 hx hlk Bd.returns rfl (Or.inl ⟨rfl, by simp, _, rfl⟩) (hb hby at_72) (Nat.le_of_ble_eq_true rfl) (Nat.le_of_ble_eq_true rfl) ?_
          exact ⟨(own_lf_own_f0_6 (p0 := p0) (p1 := p1) hz5 hs7 hs10 hc16), N6, trivial⟩
        · refine own_go (fun _ k => XS.ifYes X6.here hx rfl (pc0 := 68) (pc' := 73) rfl (hb hby at_68) rfl ((if0 _ _).trans (feq hc16).2) (by decide) (by decide) k) ?_
          show own_Fin _ _ _ _ _ _ _ (T6.setTop (mkF m 73 #[.val (.int p0), .val (.int p1), .val (.int (p1 &&& (3 : Int32))), .val (.int z5), .val (.ref b6rb), .val (.int (3 : Int32)), .unset] []))
          refine own_go (fun _ k => XS.aload X6.here hx rfl (hb hby at_73) rfl rfl k) ?_
          show own_Fin _ _ _ _ _ _ _ (T6.setTop (mkF m 75 #[.val (.int p0), .val (.int p1), .val (.int (p1 &&& (3 : Int32))), .val (.int z5), .val (.ref b6rb), .val (.int (3 : Int32)), .unset] [(.ref b6rb)]))
          refine own_go (fun _ k => XS.iconst X6.here hx rfl (hb hby at_75) k) ?_
          show own_Fin _ _ _ _ _ _ _ (T6.setTop (mkF m 76 #[.val (.int p0), .val (.int p1), .val (.int (p1 &&& (3 : Int32))), .val (.int z5), .val (.ref b6rb), .val (.int (3 : Int32)), .unset] [(.int (0 : Int32)), (.ref b6rb)]))
          refine own_go (fun tg k => own_baload X6 hx hZ rfl A_b6rb_6 (j := (0 : Int32)) ⟨by decide, by decide⟩ (x := ((own_tb z5) 0)) rfl (g := (mkF m 76 #[.val (.int p0), .val (.int p1), .val (.int (p1 &&& (3 : Int32))), .val (.int z5), .val (.ref b6rb), .val (.int (3 : Int32)), .unset] [(.int (0 : Int32)), (.ref b6rb)])) rfl rfl (hb hby at_76) tg k) ?_
          show own_Fin _ _ _ _ _ _ _ (T6.setTop (mkF m 77 #[.val (.int p0), .val (.int p1), .val (.int (p1 &&& (3 : Int32))), .val (.int z5), .val (.ref b6rb), .val (.int (3 : Int32)), .unset] [(.int ((own_tb z5) 0))]))
          refine own_go (fun _ k => XS.sipush X6.here hx rfl (hb hby at_77) k) ?_
          show own_Fin _ _ _ _ _ _ _ (T6.setTop (mkF m 80 #[.val (.int p0), .val (.int p1), .val (.int (p1 &&& (3 : Int32))), .val (.int z5), .val (.ref b6rb), .val (.int (3 : Int32)), .unset] [(.int (255 : Int32)), (.int ((own_tb z5) 0))]))
          refine own_go (fun _ k => XS.iand X6.here hx rfl (hb hby at_80) rfl k) ?_
          show own_Fin _ _ _ _ _ _ _ (T6.setTop (mkF m 81 #[.val (.int p0), .val (.int p1), .val (.int (p1 &&& (3 : Int32))), .val (.int z5), .val (.ref b6rb), .val (.int (3 : Int32)), .unset] [(.int (((own_tb z5) 0) &&& (255 : Int32)))]))
          refine own_go (fun _ k => XS.istore X6.here hx rfl (hb hby at_81) rfl (l' := #[.val (.int p0), .val (.int p1), .val (.int (p1 &&& (3 : Int32))), .val (.int z5), .val (.ref b6rb), .val (.int (3 : Int32)), .val (.int (((own_tb z5) 0) &&& (255 : Int32)))]) rfl k) ?_
          show own_Fin _ _ _ _ _ _ _ (T6.setTop (mkF m 83 #[.val (.int p0), .val (.int p1), .val (.int (p1 &&& (3 : Int32))), .val (.int z5), .val (.ref b6rb), .val (.int (3 : Int32)), .val (.int (((own_tb z5) 0) &&& (255 : Int32)))] []))
          generalize hz17 : (((own_tb z5) 0) &&& (255 : Int32)) = z17
          show own_Fin _ _ _ _ _ _ _ (T6.setTop (mkF m 83 #[.val (.int p0), .val (.int p1), .val (.int (p1 &&& (3 : Int32))), .val (.int z5), .val (.ref b6rb), .val (.int (3 : Int32)), .val (.int z17)] []))
          refine own_go (fun _ k => XS.iload X6.here hx rfl (hb hby at_83) rfl k) ?_
          show own_Fin _ _ _ _ _ _ _ (T6.setTop (mkF m 85 #[.val (.int p0), .val (.int p1), .val (.int (p1 &&& (3 : Int32))), .val (.int z5), .val (.ref b6rb), .val (.int (3 : Int32)), .val (.int z17)] [(.int (3 : Int32))]))
          refine own_go (fun _ k => XS.iconst X6.here hx rfl (hb hby at_85) k) ?_
          show own_Fin _ _ _ _ _ _ _ (T6.setTop (mkF m 86 #[.val (.int p0), .val (.int p1), .val (.int (p1 &&& (3 : Int32))), .val (.int z5), .val (.ref b6rb), .val (.int (3 : Int32)), .val (.int z17)] [(.int (1 : Int32)), (.int (3 : Int32))]))
          refine own_go (fun _ k => XS.icmpNo X6.here hx rfl (hb hby at_86) rfl (tlt (by decide)).2.2.2 k) ?_
          show own_Fin _ _ _ _ _ _ _ (T6.setTop (mkF m 89 #[.val (.int p0), .val (.int p1), .val (.int (p1 &&& (3 : Int32))), .val (.int z5), .val (.ref b6rb), .val (.int (3 : Int32)), .val (.int z17)] []))
          refine own_go (fun _ k => XS.iload X6.here hx rfl (hb hby at_89) rfl k) ?_
          show own_Fin _ _ _ _ _ _ _ (T6.setTop (mkF m 91 #[.val (.int p0), .val (.int p1), .val (.int (p1 &&& (3 : Int32))), .val (.int z5), .val (.ref b6rb), .val (.int (3 : Int32)), .val (.int z17)] [(.int z17)]))
          refine own_go (fun _ k => XS.bipush X6.here hx rfl (hb hby at_91) k) ?_
          show own_Fin _ _ _ _ _ _ _ (T6.setTop (mkF m 93 #[.val (.int p0), .val (.int p1), .val (.int (p1 &&& (3 : Int32))), .val (.int z5), .val (.ref b6rb), .val (.int (3 : Int32)), .val (.int z17)] [(.int (8 : Int32)), (.int z17)]))
          refine own_go (fun _ k => XS.ishl X6.here hx rfl (hb hby at_93) rfl k) ?_
          show own_Fin _ _ _ _ _ _ _ (T6.setTop (mkF m 94 #[.val (.int p0), .val (.int p1), .val (.int (p1 &&& (3 : Int32))), .val (.int z5), .val (.ref b6rb), .val (.int (3 : Int32)), .val (.int z17)] [(.int (own_ishl z17 (8 : Int32)))]))
          refine own_go (fun _ k => XS.aload X6.here hx rfl (hb hby at_94) rfl rfl k) ?_
          show own_Fin _ _ _ _ _ _ _ (T6.setTop (mkF m 96 #[.val (.int p0), .val (.int p1), .val (.int (p1 &&& (3 : Int32))), .val (.int z5), .val (.ref b6rb), .val (.int (3 : Int32)), .val (.int z17)] [(.ref b6rb), (.int (own_ishl z17 (8 : Int32)))]))
          refine own_go (fun _ k => XS.iconst X6.here hx rfl (hb hby at_96) k) ?_
          show own_Fin _ _ _ _ _ _ _ (T6.setTop (mkF m 97 #[.val (.int p0), .val (.int p1), .val (.int (p1 &&& (3 : Int32))), .val (.int z5), .val (.ref b6rb), .val (.int (3 : Int32)), .val (.int z17)] [(.int (1 : Int32)), (.ref b6rb), (.int (own_ishl z17 (8 : Int32)))]))
          refine own_go (fun tg k => own_baload X6 hx hZ rfl A_b6rb_6 (j := (1 : Int32)) ⟨by decide, by decide⟩ (x := ((own_tb z5) 1)) rfl (g := (mkF m 97 #[.val (.int p0), .val (.int p1), .val (.int (p1 &&& (3 : Int32))), .val (.int z5), .val (.ref b6rb), .val (.int (3 : Int32)), .val (.int z17)] [(.int (1 : Int32)), (.ref b6rb), (.int (own_ishl z17 (8 : Int32)))])) rfl rfl (hb hby at_97) tg k) ?_
          show own_Fin _ _ _ _ _ _ _ (T6.setTop (mkF m 98 #[.val (.int p0), .val (.int p1), .val (.int (p1 &&& (3 : Int32))), .val (.int z5), .val (.ref b6rb), .val (.int (3 : Int32)), .val (.int z17)] [(.int ((own_tb z5) 1)), (.int (own_ishl z17 (8 : Int32)))]))
          refine own_go (fun _ k => XS.sipush X6.here hx rfl (hb hby at_98) k) ?_
          show own_Fin _ _ _ _ _ _ _ (T6.setTop (mkF m 101 #[.val (.int p0), .val (.int p1), .val (.int (p1 &&& (3 : Int32))), .val (.int z5), .val (.ref b6rb), .val (.int (3 : Int32)), .val (.int z17)] [(.int (255 : Int32)), (.int ((own_tb z5) 1)), (.int (own_ishl z17 (8 : Int32)))]))
          refine own_go (fun _ k => XS.iand X6.here hx rfl (hb hby at_101) rfl k) ?_
          show own_Fin _ _ _ _ _ _ _ (T6.setTop (mkF m 102 #[.val (.int p0), .val (.int p1), .val (.int (p1 &&& (3 : Int32))), .val (.int z5), .val (.ref b6rb), .val (.int (3 : Int32)), .val (.int z17)] [(.int (((own_tb z5) 1) &&& (255 : Int32))), (.int (own_ishl z17 (8 : Int32)))]))
          refine own_go (fun _ k => XS.ior X6.here hx rfl (hb hby at_102) rfl k) ?_
          show own_Fin _ _ _ _ _ _ _ (T6.setTop (mkF m 103 #[.val (.int p0), .val (.int p1), .val (.int (p1 &&& (3 : Int32))), .val (.int z5), .val (.ref b6rb), .val (.int (3 : Int32)), .val (.int z17)] [(.int ((own_ishl z17 (8 : Int32)) ||| (((own_tb z5) 1) &&& (255 : Int32))))]))
          refine own_go (fun _ k => XS.istore X6.here hx rfl (hb hby at_103) rfl (l' := #[.val (.int p0), .val (.int p1), .val (.int (p1 &&& (3 : Int32))), .val (.int z5), .val (.ref b6rb), .val (.int (3 : Int32)), .val (.int ((own_ishl z17 (8 : Int32)) ||| (((own_tb z5) 1) &&& (255 : Int32))))]) rfl k) ?_
          show own_Fin _ _ _ _ _ _ _ (T6.setTop (mkF m 105 #[.val (.int p0), .val (.int p1), .val (.int (p1 &&& (3 : Int32))), .val (.int z5), .val (.ref b6rb), .val (.int (3 : Int32)), .val (.int ((own_ishl z17 (8 : Int32)) ||| (((own_tb z5) 1) &&& (255 : Int32))))] []))
          generalize hz18 : ((own_ishl z17 (8 : Int32)) ||| (((own_tb z5) 1) &&& (255 : Int32))) = z18
          show own_Fin _ _ _ _ _ _ _ (T6.setTop (mkF m 105 #[.val (.int p0), .val (.int p1), .val (.int (p1 &&& (3 : Int32))), .val (.int z5), .val (.ref b6rb), .val (.int (3 : Int32)), .val (.int z18)] []))
          refine own_go (fun _ k => XS.iload X6.here hx rfl (hb hby at_105) rfl k) ?_
          show own_Fin _ _ _ _ _ _ _ (T6.setTop (mkF m 107 #[.val (.int p0), .val (.int p1), .val (.int (p1 &&& (3 : Int32))), .val (.int z5), .val (.ref b6rb), .val (.int (3 : Int32)), .val (.int z18)] [(.int (3 : Int32))]))
          refine own_go (fun _ k => XS.iconst X6.here hx rfl (hb hby at_107) k) ?_
          show own_Fin _ _ _ _ _ _ _ (T6.setTop (mkF m 108 #[.val (.int p0), .val (.int p1), .val (.int (p1 &&& (3 : Int32))), .val (.int z5), .val (.ref b6rb), .val (.int (3 : Int32)), .val (.int z18)] [(.int (2 : Int32)), (.int (3 : Int32))]))
          refine own_go (fun _ k => XS.icmpNo X6.here hx rfl (hb hby at_108) rfl (tlt (by decide)).2.2.2 k) ?_
          show own_Fin _ _ _ _ _ _ _ (T6.setTop (mkF m 111 #[.val (.int p0), .val (.int p1), .val (.int (p1 &&& (3 : Int32))), .val (.int z5), .val (.ref b6rb), .val (.int (3 : Int32)), .val (.int z18)] []))
          refine own_go (fun _ k => XS.iload X6.here hx rfl (hb hby at_111) rfl k) ?_
          show own_Fin _ _ _ _ _ _ _ (T6.setTop (mkF m 113 #[.val (.int p0), .val (.int p1), .val (.int (p1 &&& (3 : Int32))), .val (.int z5), .val (.ref b6rb), .val (.int (3 : Int32)), .val (.int z18)] [(.int z18)]))
          refine own_go (fun _ k => XS.bipush X6.here hx rfl (hb hby at_113) k) ?_
          show own_Fin _ _ _ _ _ _ _ (T6.setTop (mkF m 115 #[.val (.int p0), .val (.int p1), .val (.int (p1 &&& (3 : Int32))), .val (.int z5), .val (.ref b6rb), .val (.int (3 : Int32)), .val (.int z18)] [(.int (8 : Int32)), (.int z18)]))
          refine own_go (fun _ k => XS.ishl X6.here hx rfl (hb hby at_115) rfl k) ?_
          show own_Fin _ _ _ _ _ _ _ (T6.setTop (mkF m 116 #[.val (.int p0), .val (.int p1), .val (.int (p1 &&& (3 : Int32))), .val (.int z5), .val (.ref b6rb), .val (.int (3 : Int32)), .val (.int z18)] [(.int (own_ishl z18 (8 : Int32)))]))
          refine own_go (fun _ k => XS.aload X6.here hx rfl (hb hby at_116) rfl rfl k) ?_
          show own_Fin _ _ _ _ _ _ _ (T6.setTop (mkF m 118 #[.val (.int p0), .val (.int p1), .val (.int (p1 &&& (3 : Int32))), .val (.int z5), .val (.ref b6rb), .val (.int (3 : Int32)), .val (.int z18)] [(.ref b6rb), (.int (own_ishl z18 (8 : Int32)))]))
          refine own_go (fun _ k => XS.iconst X6.here hx rfl (hb hby at_118) k) ?_
          show own_Fin _ _ _ _ _ _ _ (T6.setTop (mkF m 119 #[.val (.int p0), .val (.int p1), .val (.int (p1 &&& (3 : Int32))), .val (.int z5), .val (.ref b6rb), .val (.int (3 : Int32)), .val (.int z18)] [(.int (2 : Int32)), (.ref b6rb), (.int (own_ishl z18 (8 : Int32)))]))
          refine own_go (fun tg k => own_baload X6 hx hZ rfl A_b6rb_6 (j := (2 : Int32)) ⟨by decide, by decide⟩ (x := ((own_tb z5) 2)) rfl (g := (mkF m 119 #[.val (.int p0), .val (.int p1), .val (.int (p1 &&& (3 : Int32))), .val (.int z5), .val (.ref b6rb), .val (.int (3 : Int32)), .val (.int z18)] [(.int (2 : Int32)), (.ref b6rb), (.int (own_ishl z18 (8 : Int32)))])) rfl rfl (hb hby at_119) tg k) ?_
          show own_Fin _ _ _ _ _ _ _ (T6.setTop (mkF m 120 #[.val (.int p0), .val (.int p1), .val (.int (p1 &&& (3 : Int32))), .val (.int z5), .val (.ref b6rb), .val (.int (3 : Int32)), .val (.int z18)] [(.int ((own_tb z5) 2)), (.int (own_ishl z18 (8 : Int32)))]))
          refine own_go (fun _ k => XS.sipush X6.here hx rfl (hb hby at_120) k) ?_
          show own_Fin _ _ _ _ _ _ _ (T6.setTop (mkF m 123 #[.val (.int p0), .val (.int p1), .val (.int (p1 &&& (3 : Int32))), .val (.int z5), .val (.ref b6rb), .val (.int (3 : Int32)), .val (.int z18)] [(.int (255 : Int32)), (.int ((own_tb z5) 2)), (.int (own_ishl z18 (8 : Int32)))]))
          refine own_go (fun _ k => XS.iand X6.here hx rfl (hb hby at_123) rfl k) ?_
          show own_Fin _ _ _ _ _ _ _ (T6.setTop (mkF m 124 #[.val (.int p0), .val (.int p1), .val (.int (p1 &&& (3 : Int32))), .val (.int z5), .val (.ref b6rb), .val (.int (3 : Int32)), .val (.int z18)] [(.int (((own_tb z5) 2) &&& (255 : Int32))), (.int (own_ishl z18 (8 : Int32)))]))
          refine own_go (fun _ k => XS.ior X6.here hx rfl (hb hby at_124) rfl k) ?_
          show own_Fin _ _ _ _ _ _ _ (T6.setTop (mkF m 125 #[.val (.int p0), .val (.int p1), .val (.int (p1 &&& (3 : Int32))), .val (.int z5), .val (.ref b6rb), .val (.int (3 : Int32)), .val (.int z18)] [(.int ((own_ishl z18 (8 : Int32)) ||| (((own_tb z5) 2) &&& (255 : Int32))))]))
          refine own_go (fun _ k => XS.istore X6.here hx rfl (hb hby at_125) rfl (l' := #[.val (.int p0), .val (.int p1), .val (.int (p1 &&& (3 : Int32))), .val (.int z5), .val (.ref b6rb), .val (.int (3 : Int32)), .val (.int ((own_ishl z18 (8 : Int32)) ||| (((own_tb z5) 2) &&& (255 : Int32))))]) rfl k) ?_
          show own_Fin _ _ _ _ _ _ _ (T6.setTop (mkF m 127 #[.val (.int p0), .val (.int p1), .val (.int (p1 &&& (3 : Int32))), .val (.int z5), .val (.ref b6rb), .val (.int (3 : Int32)), .val (.int ((own_ishl z18 (8 : Int32)) ||| (((own_tb z5) 2) &&& (255 : Int32))))] []))
          generalize hz19 : ((own_ishl z18 (8 : Int32)) ||| (((own_tb z5) 2) &&& (255 : Int32))) = z19
          show own_Fin _ _ _ _ _ _ _ (T6.setTop (mkF m 127 #[.val (.int p0), .val (.int p1), .val (.int (p1 &&& (3 : Int32))), .val (.int z5), .val (.ref b6rb), .val (.int (3 : Int32)), .val (.int z19)] []))
          refine own_go (fun _ k => XS.iload X6.here hx rfl (hb hby at_127) rfl k) ?_
          show own_Fin _ _ _ _ _ _ _ (T6.setTop (mkF m 129 #[.val (.int p0), .val (.int p1), .val (.int (p1 &&& (3 : Int32))), .val (.int z5), .val (.ref b6rb), .val (.int (3 : Int32)), .val (.int z19)] [(.int z19)]))
          refine own_go (fun _ k => XS.iloadN X6.here hx rfl (hb hby at_129) rfl k) ?_
          show own_Fin _ _ _ _ _ _ _ (T6.setTop (mkF m 130 #[.val (.int p0), .val (.int p1), .val (.int (p1 &&& (3 : Int32))), .val (.int z5), .val (.ref b6rb), .val (.int (3 : Int32)), .val (.int z19)] [(.int z5), (.int z19)]))
          by_cases hc20 : z19 = z5
          · refine own_go (fun _ k => XS.icmpNo X6.here hx rfl (hb hby at_130) rfl (teq hc20).2 k) ?_
            show own_Fin _ _ _ _ _ _ _ (T6.setTop (mkF m 133 #[.val (.int p0), .val (.int p1), .val (.int (p1 &&& (3 : Int32))), .val (.int z5), .val (.ref b6rb), .val (.int (3 : Int32)), .val (.int z19)] []))
            refine own_go (fun _ k => XS.iconst X6.here hx rfl (hb hby at_133) k) ?_
            show own_Fin _ _ _ _ _ _ _ (T6.setTop (mkF m 134 #[.val (.int p0), .val (.int p1), .val (.int (p1 &&& (3 : Int32))), .val (.int z5), .val (.ref b6rb), .val (.int (3 : Int32)), .val (.int z19)] [(.int (1 : Int32))]))
            refine own_go (fun _ k => XS.goto X6.here hx rfl (pc0 := 134) (pc' := 138) rfl (hb hby at_134) (by decide) (by decide) k) ?_
            show own_Fin _ _ _ _ _ _ _ (T6.setTop (mkF m 138 #[.val (.int p0), .val (.int p1), .val (.int (p1 &&& (3 : Int32))), .val (.int z5), .val (.ref b6rb), .val (.int (3 : Int32)), .val (.int z19)] [(.int (1 : Int32))]))
            refine own_ret X6 hx hlk Bd.returns rfl (Or.inl ⟨rfl, by simp, _, rfl⟩) (hb hby at_138) (Nat.le_of_ble_eq_true rfl) (Nat.le_of_ble_eq_true rfl) ?_
            exact ⟨(own_lf_own_f0_7 (p0 := p0) (p1 := p1) hz5 hz17 hz18 hz19 hs7 hs10 hc16 hc20), N6, trivial⟩
          · refine own_go (fun _ k => XS.icmpYes X6.here hx rfl (pc0 := 130) (pc' := 137) rfl (hb hby at_130) rfl (feq hc20).2 (by decide) (by decide) k) ?_
            show own_Fin _ _ _ _ _ _ _ (T6.setTop (mkF m 137 #[.val (.int p0), .val (.int p1), .val (.int (p1 &&& (3 : Int32))), .val (.int z5), .val (.ref b6rb), .val (.int (3 : Int32)), .val (.int z19)] []))
            refine own_go (fun _ k => XS.iconst X6.here hx rfl (hb hby at_137) k) ?_
            show own_Fin _ _ _ _ _ _ _ (T6.setTop (mkF m 138 #[.val (.int p0), .val (.int p1), .val (.int (p1 &&& (3 : Int32))), .val (.int z5), .val (.ref b6rb), .val (.int (3 : Int32)), .val (.int z19)] [(.int (0 : Int32))]))
            refine own_ret X6 hx hlk Bd.returns rfl (Or.inl ⟨rfl, by simp, _, rfl⟩) (hb hby at_138) (Nat.le_of_ble_eq_true rfl) (Nat.le_of_ble_eq_true rfl) ?_
            exact ⟨(own_lf_own_f0_8 (p0 := p0) (p1 := p1) hz5 hz17 hz18 hz19 hs7 hs10 hc16 hc20), N6, trivial⟩
  by_cases hc1 : (p1 &&& (3 : Int32)) = (0 : Int32)
  · refine own_go (fun _ k => XS.ifNo X0.here hx rfl (hb hby at_5) rfl ((if0 _ _).trans (teq hc1).2) k) ?_
    show own_Fin _ _ _ _ _ _ _ (s₁.setTop (mkF m 8 #[.val (.int p0), .val (.int p1), .val (.int (p1 &&& (3 : Int32))), .unset, .unset, .unset, .unset] []))
    refine own_go (fun _ k => XS.iloadN X0.here hx rfl (hb hby at_8) rfl k) ?_
    show own_Fin _ _ _ _ _ _ _ (s₁.setTop (mkF m 9 #[.val (.int p0), .val (.int p1), .val (.int (p1 &&& (3 : Int32))), .unset, .unset, .unset, .unset] [(.int p0)]))
    refine own_go (fun _ k => XS.sipush X0.here hx rfl (hb hby at_9) k) ?_
    show own_Fin _ _ _ _ _ _ _ (s₁.setTop (mkF m 12 #[.val (.int p0), .val (.int p1), .val (.int (p1 &&& (3 : Int32))), .unset, .unset, .unset, .unset] [(.int (255 : Int32)), (.int p0)]))
    refine own_go (fun _ k => XS.iand X0.here hx rfl (hb hby at_12) rfl k) ?_
    show own_Fin _ _ _ _ _ _ _ (s₁.setTop (mkF m 13 #[.val (.int p0), .val (.int p1), .val (.int (p1 &&& (3 : Int32))), .unset, .unset, .unset, .unset] [(.int (p0 &&& (255 : Int32)))]))
    refine own_go (fun _ k => XS.goto X0.here hx rfl (pc0 := 13) (pc' := 32) rfl (hb hby at_13) (by decide) (by decide) k) ?_
    show own_Fin _ _ _ _ _ _ _ (s₁.setTop (mkF m 32 #[.val (.int p0), .val (.int p1), .val (.int (p1 &&& (3 : Int32))), .unset, .unset, .unset, .unset] [(.int (p0 &&& (255 : Int32)))]))
    have kj := hk2 s₁ _ (own_mono X0 (by decide) (by decide)) N0 e0
    simpa only [if_pos hc1] using kj
  · refine own_go (fun _ k => XS.ifYes X0.here hx rfl (pc0 := 5) (pc' := 16) rfl (hb hby at_5) rfl ((if0 _ _).trans (feq hc1).2) (by decide) (by decide) k) ?_
    show own_Fin _ _ _ _ _ _ _ (s₁.setTop (mkF m 16 #[.val (.int p0), .val (.int p1), .val (.int (p1 &&& (3 : Int32))), .unset, .unset, .unset, .unset] []))
    refine own_go (fun _ k => XS.iloadN X0.here hx rfl (hb hby at_16) rfl k) ?_
    show own_Fin _ _ _ _ _ _ _ (s₁.setTop (mkF m 17 #[.val (.int p0), .val (.int p1), .val (.int (p1 &&& (3 : Int32))), .unset, .unset, .unset, .unset] [(.int (p1 &&& (3 : Int32)))]))
    refine own_go (fun _ k => XS.iconst X0.here hx rfl (hb hby at_17) k) ?_
    show own_Fin _ _ _ _ _ _ _ (s₁.setTop (mkF m 18 #[.val (.int p0), .val (.int p1), .val (.int (p1 &&& (3 : Int32))), .unset, .unset, .unset, .unset] [(.int (1 : Int32)), (.int (p1 &&& (3 : Int32)))]))
    by_cases hc3 : (p1 &&& (3 : Int32)) = (1 : Int32)
    · refine own_go (fun _ k => XS.icmpNo X0.here hx rfl (hb hby at_18) rfl (teq hc3).2 k) ?_
      show own_Fin _ _ _ _ _ _ _ (s₁.setTop (mkF m 21 #[.val (.int p0), .val (.int p1), .val (.int (p1 &&& (3 : Int32))), .unset, .unset, .unset, .unset] []))
      refine own_go (fun _ k => XS.iloadN X0.here hx rfl (hb hby at_21) rfl k) ?_
      show own_Fin _ _ _ _ _ _ _ (s₁.setTop (mkF m 22 #[.val (.int p0), .val (.int p1), .val (.int (p1 &&& (3 : Int32))), .unset, .unset, .unset, .unset] [(.int p0)]))
      refine own_go (fun _ k => X0.ldcInt hx hown (mvT hZ (hw _ (List.mem_of_getElem? (i := 7) rfl))) (g := (mkF m 22 #[.val (.int p0), .val (.int p1), .val (.int (p1 &&& (3 : Int32))), .unset, .unset, .unset, .unset] [(.int p0)])) rfl (hb hby at_22) _ k) ?_
      show own_Fin _ _ _ _ _ _ _ (s₁.setTop (mkF m 24 #[.val (.int p0), .val (.int p1), .val (.int (p1 &&& (3 : Int32))), .unset, .unset, .unset, .unset] [(.int (65535 : Int32)), (.int p0)]))
      refine own_go (fun _ k => XS.iand X0.here hx rfl (hb hby at_24) rfl k) ?_
      show own_Fin _ _ _ _ _ _ _ (s₁.setTop (mkF m 25 #[.val (.int p0), .val (.int p1), .val (.int (p1 &&& (3 : Int32))), .unset, .unset, .unset, .unset] [(.int (p0 &&& (65535 : Int32)))]))
      refine own_go (fun _ k => XS.goto X0.here hx rfl (pc0 := 25) (pc' := 32) rfl (hb hby at_25) (by decide) (by decide) k) ?_
      show own_Fin _ _ _ _ _ _ _ (s₁.setTop (mkF m 32 #[.val (.int p0), .val (.int p1), .val (.int (p1 &&& (3 : Int32))), .unset, .unset, .unset, .unset] [(.int (p0 &&& (65535 : Int32)))]))
      have kj := hk2 s₁ _ (own_mono X0 (by decide) (by decide)) N0 e0
      simpa only [if_neg hc1, if_pos hc3] using kj
    · refine own_go (fun _ k => XS.icmpYes X0.here hx rfl (pc0 := 18) (pc' := 28) rfl (hb hby at_18) rfl (feq hc3).2 (by decide) (by decide) k) ?_
      show own_Fin _ _ _ _ _ _ _ (s₁.setTop (mkF m 28 #[.val (.int p0), .val (.int p1), .val (.int (p1 &&& (3 : Int32))), .unset, .unset, .unset, .unset] []))
      refine own_go (fun _ k => XS.iloadN X0.here hx rfl (hb hby at_28) rfl k) ?_
      show own_Fin _ _ _ _ _ _ _ (s₁.setTop (mkF m 29 #[.val (.int p0), .val (.int p1), .val (.int (p1 &&& (3 : Int32))), .unset, .unset, .unset, .unset] [(.int p0)]))
      refine own_go (fun _ k => X0.ldcInt hx hown (mvT hZ (hw _ (List.mem_of_getElem? (i := 0) rfl))) (g := (mkF m 29 #[.val (.int p0), .val (.int p1), .val (.int (p1 &&& (3 : Int32))), .unset, .unset, .unset, .unset] [(.int p0)])) rfl (hb hby at_29) _ k) ?_
      show own_Fin _ _ _ _ _ _ _ (s₁.setTop (mkF m 31 #[.val (.int p0), .val (.int p1), .val (.int (p1 &&& (3 : Int32))), .unset, .unset, .unset, .unset] [(.int (16777215 : Int32)), (.int p0)]))
      refine own_go (fun _ k => XS.iand X0.here hx rfl (hb hby at_31) rfl k) ?_
      show own_Fin _ _ _ _ _ _ _ (s₁.setTop (mkF m 32 #[.val (.int p0), .val (.int p1), .val (.int (p1 &&& (3 : Int32))), .unset, .unset, .unset, .unset] [(.int (p0 &&& (16777215 : Int32)))]))
      have kj := hk2 s₁ _ (own_mono X0 (by decide) (by decide)) N0 e0
      simpa only [if_neg hc1, if_neg hc3] using kj
theorem own_bt (x : Int32) : ((own_i2b (own_i2b x)) &&& (255 : Int32)).toInt = x.toInt % 256 := by
  have a := c_i2b x
  have b := c_i2b (own_i2b x)
  have h1 := c_mask (own_i2b (own_i2b x)) 255 8 (by decide) (by decide)
  have e1 : (own_i2b (own_i2b x)).toInt = (own_i2b x).toInt8.toInt32.toInt := rfl
  have e2 : (own_i2b x).toInt = x.toInt8.toInt32.toInt := rfl
  rw [h1, show ((2 ^ 8 : Nat) : Int) = 256 from by decide]; omega
theorem own_bz (x : Int32) (h : own_i2b (own_i2b x) = 0) : x.toInt % 256 = 0 := by
  have a := own_bt x
  rw [h] at a
  rw [← a]; decide
theorem own_sh (x : Int32) (k : Int32) (n : Nat) (h : k.toBitVec.toNat % 32 = n) : (own_ishr x k).toInt = x.toInt / (2 ^ n : Nat) := c_ishr x k n h
theorem own_cat (a b : Int32) (ha : 0 ≤ a.toInt ∧ a.toInt < 65536) (hb : 0 ≤ b.toInt ∧ b.toInt < 256) : ((own_ishl a (8 : Int32)) ||| b).toInt = a.toInt * 256 + b.toInt := by
  have s : ((own_ishl a (8 : Int32)).toInt - a.toInt * (2 ^ 8 : Nat)) % 4294967296 = 0 := c_ishl a 8 8 (by decide)
  rw [show ((2 ^ 8 : Nat) : Int) = 256 from by decide] at s
  have r := rng32 (own_ishl a 8)
  have o := c_or (own_ishl a 8) b 8 (by decide) 256 (by decide) (by omega) (by omega) (by omega)
  have r2 := rng32 (own_ishl a 8 ||| b)
  omega
theorem own_tag (t : Int32) (h : 0 ≤ t.toInt ∧ t.toInt < 16777216) : (if (own_tl t) = (1 : Int32) then (if (((own_tb t) 0) &&& (255 : Int32)) = t then (1 : Int32) else (0 : Int32)) else (if (own_tl t) = (2 : Int32) then (if ((own_tb t) 0) = (0 : Int32) then (0 : Int32) else (if ((own_ishl (((own_tb t) 0) &&& (255 : Int32)) (8 : Int32)) ||| (((own_tb t) 1) &&& (255 : Int32))) = t then (1 : Int32) else (0 : Int32))) else (if ((own_tb t) 0) = (0 : Int32) then (0 : Int32) else (if ((own_ishl ((own_ishl (((own_tb t) 0) &&& (255 : Int32)) (8 : Int32)) ||| (((own_tb t) 1) &&& (255 : Int32))) (8 : Int32)) ||| (((own_tb t) 2) &&& (255 : Int32))) = t then (1 : Int32) else (0 : Int32))))) = (1 : Int32) := by
  have k1 : (65535 : Int32).toInt = 65535 := by decide
  have k2 : (255 : Int32).toInt = 255 := by decide
  have s0 := own_sh t 0 0 (by decide)
  have s8 := own_sh t 8 8 (by decide)
  have s16 := own_sh t 16 16 (by decide)
  rw [show ((2 ^ 0 : Nat) : Int) = 1 from by decide] at s0
  rw [show ((2 ^ 8 : Nat) : Int) = 256 from by decide] at s8
  rw [show ((2 ^ 16 : Nat) : Int) = 65536 from by decide] at s16
  have b0 := own_bt (own_ishr t 0)
  have b8 := own_bt (own_ishr t 8)
  have b16 := own_bt (own_ishr t 16)
  by_cases c1 : (65535 : Int32) < t
  · have c1' := c1
    rw [Int32.lt_iff_toInt_lt, k1] at c1'
    have e : own_tl t = 3 := by simp only [own_tl, if_pos c1]
    have g0 : own_tb t 0 = own_i2b (own_i2b (own_ishr t 16)) := by simp only [own_tb, if_pos c1]; rfl
    have g1 : own_tb t 1 = own_i2b (own_i2b (own_ishr t 8)) := by simp only [own_tb, if_pos c1]; rfl
    have g2 : own_tb t 2 = own_i2b (own_i2b (own_ishr t 0)) := by simp only [own_tb, if_pos c1]; rfl
    rw [e, g0, g1, g2, if_neg (by decide), if_neg (by decide), if_neg (fun q => by have := own_bz _ q; omega)]
    apply if_pos
    apply Int32.toInt_inj.mp
    have x1 := own_cat (own_i2b (own_i2b (own_ishr t 16)) &&& 255) (own_i2b (own_i2b (own_ishr t 8)) &&& 255) (by omega) (by omega)
    rw [own_cat _ _ (by omega) (by omega), x1]; omega
  · have c1' := c1
    rw [Int32.lt_iff_toInt_lt, k1] at c1'
    by_cases c2 : (255 : Int32) < t
    · have c2' := c2
      rw [Int32.lt_iff_toInt_lt, k2] at c2'
      have e : own_tl t = 2 := by simp only [own_tl, if_neg c1, if_pos c2]
      have g0 : own_tb t 0 = own_i2b (own_i2b (own_ishr t 8)) := by simp only [own_tb, if_neg c1, if_pos c2]; rfl
      have g1 : own_tb t 1 = own_i2b (own_i2b (own_ishr t 0)) := by simp only [own_tb, if_neg c1, if_pos c2]; rfl
      rw [e, g0, g1, if_neg (by decide), if_pos rfl, if_neg (fun q => by have := own_bz _ q; omega)]
      apply if_pos
      apply Int32.toInt_inj.mp
      rw [own_cat _ _ (by omega) (by omega)]; omega
    · have c2' := c2
      rw [Int32.lt_iff_toInt_lt, k2] at c2'
      have e : own_tl t = 1 := by simp only [own_tl, if_neg c1, if_neg c2]
      have g0 : own_tb t 0 = own_i2b (own_i2b (own_ishr t 0)) := by simp only [own_tb, if_neg c1, if_neg c2]; rfl
      rw [e, g0, if_pos rfl]
      apply if_pos
      apply Int32.toInt_inj.mp
      omega
theorem own_plain (p0 p1 : Int32) : own_f0 p0 p1 = 1 := by
  simp only [own_f0]
  generalize ht : (if (p1 &&& (3 : Int32)) = (0 : Int32) then _ else _) = t
  have h : 0 ≤ t.toInt ∧ t.toInt < 16777216 := by
    subst ht
    have a1 := c_and p0 255 (by decide)
    have a2 := c_and p0 65535 (by decide)
    have a3 := c_and p0 16777215 (by decide)
    rw [show (255 : Int32).toInt = 255 from by decide] at a1
    rw [show (65535 : Int32).toInt = 65535 from by decide] at a2
    rw [show (16777215 : Int32).toInt = 16777215 from by decide] at a3
    repeat' split
    all_goals omega
  exact own_tag t h

set_option maxRecDepth 65536 in
set_option maxHeartbeats 40000000 in
theorem comes_1 {Post : Tables → Env → Array Value → State → Outcome → State → Prop} (hpost : ∀ tb e args s v u, (limb_1_1.after args s (.returned v) u = true ∧ limb_1_2.after args s (.returned v) u = true ∧ True) → FrameEnd s (.returned v) u (Jvm.fieldLocs frame_1_writes args s ++ Jvm.arrayLocs frame_1_arrays args s ++ Jvm.staticLocs frame_1_statics s) 16 128 → Post tb e args s (.returned v) u) :
    ArmFor flags0 classFile x code maxLocals ret World_1 tables_1 room_1 Calls_1 rest_1 Pre_1 Post := by
  intro l hfl _ _ p e ha hc hk s m args below hf hA hF happ hP
  obtain ⟨hcalls, hrest, hpre⟩ := hP
  obtain ⟨-, -, -, hnamed, -, -, -, hat⟩ := (Spec.applies_iff hf).mp happ
  obtain ⟨hg, hn⟩ := and_e (Cond.before_iff.mp (show (Jvm.Cond.and given_1 narrow_1).before args s = true from hpre))
  obtain ⟨g1, g2⟩ := and_e hg
  obtain ⟨g3, g4⟩ := and_e g2
  obtain ⟨w0, w1, rfl⟩ : ∃ w0 w1 : Value, args = #[w0, w1] := by
    have hs : args.size = 2 := by simpa [Cond.value, given_1] using g1
    obtain ⟨L⟩ := args
    match L, hs with
    | [w0, w1], _ => exact ⟨w0, w1, rfl⟩
  have hw := fun d (hd : d ∈ tables_1) => atoms_spec (ws := Jvm.Cond.code x code maxLocals ret :: tables_1) hat d (List.mem_cons_of_mem _ hd)
  have hfit : Fit s := fun {y c} hc i hi => by
    obtain ⟨ha, rfl⟩ := Array.getElem?_eq_some_iff.mp hc
    have q := List.all_eq_true.mp ((Array.all_eq_true_iff_forall_mem.mp hF) _ (Array.getElem_mem ha)) i (List.mem_range.mpr hi)
    simpa [Array.getElem?_eq_getElem hi] using q
  obtain ⟨i0, ei0⟩ := is_v g3
  obtain rfl : w0 = (.int i0) := Option.some.inj ei0
  obtain ⟨i1, ei1⟩ := is_v g4
  obtain rfl : w1 = (.int i1) := Option.some.inj ei1
  obtain ⟨n, o, h1, h2, h3, _, L, rfl, ⟨rfl, N, hrest'⟩, hq⟩ := rm0 l s _ hw tables_1 i0 i1 s.heap s.heap.size (Nat.le_refl _) p e ha hc hk s m _ below hf ((Spec.applies_iff_loose hf).mp happ).1 ⟨rfl, State.Warmed39.refl s, rfl⟩ trivial
  refine ⟨n, _, h1, h2, h3, hpost _ _ _ _ _ _ ⟨Cond.after_iff.mpr rfl, Cond.after_iff.mpr (eq_i res_at (Term.int_eval (1)) (congrArg Value.int (own_plain i0 i1))), trivial⟩ ⟨hq.1, hq.2.1, (hq.2.2.sift fun y hy => Or.inr (N y hy)).mono (by decide) (by decide)⟩⟩
theorem main_1_1 : Claimed_1_1 := comes_1 fun _ _ _ _ _ _ h hF => ⟨h.1, hF⟩
theorem main_1_2 : Claimed_1_2 := comes_1 fun _ _ _ _ _ _ h hF => ⟨h.2.1, hF⟩
end Jvm.Pilot.@@N@@
namespace Jvm.Pilot.@@N@@
open Jvm Jvm.ClassFile Sem Op Lib Jvm.Free Jvm.Stand Jvm.Pilot.@@N@@.Jvm.D
/-! MADE BY PROGRAM (witnessworld.py) out of the Statement's table words and the real class files: 9 classes; the members and pool entries that the words name. The judged class is class 1, her method 1. -/
namespace start1
open Jvm.ClassFile
def u (s : String) : CpInfo := .utf8 (stringToUtf16 s)
/-- a pool by its gaps: so many unusable entries, then the entry; so many at the end -/
def gap : Nat → List CpInfo → List CpInfo
  | 0, r => r
  | n + 1, r => .unusable :: gap n r
def poolList (es : List (Nat × CpInfo)) (last : Nat) : List CpInfo := es.foldr (fun e r => gap e.1 (e.2 :: r)) (gap last [])
def pool (es : List (Nat × CpInfo)) (last : Nat) : Array CpInfo := ⟨poolList es last⟩
def fileOf (pool : Array CpInfo) (this : Nat) (attrs : Array Attribute := #[]) (ms : Array MethodInfo := #[]) (fl : Nat := 33) (sup : Nat := 0) (ifs : Array Nat := #[]) (fds : Array FieldInfo := #[]) : ClassFile where
  minorVersion := 0
  majorVersion := 65
  constantPool := pool
  accessFlags := fl
  thisClass := this
  superClass := sup
  interfaces := ifs
  fields := fds
  methods := ms
  attributes := attrs
def plain (name : String) (sup : Option ClassId) : Class where
  name := name
  kind := .ordinary
  loader := none
  accessFlags := 33
  super := sup
  interfaces := #[]
  cf := none
  fields := #[]
  methods := #[]
  instanceTypes := #[]
  staticTypes := #[]
  resolved := #[]
  callSites := []
  init := .initialized
  statics := none
  mirror := none

def pool0 : Array CpInfo := pool [(5, u "<init>"), (0, u "()V"), (1, .class_ 10), (1, u "java/lang/Object")] 113

def k0m0 : Method := { name := "<init>", desc := "()V", sig := { parameters := [], returnType := none }, accessFlags := 1, code := none }
/-- java/lang/Object -/
def k0 : Class := { plain "java/lang/Object" none with
  accessFlags := 33
  interfaces := #[]
  cf := some (fileOf pool0 8 #[] #[{ accessFlags := 1, nameIndex := 5, descriptorIndex := 6, attributes := #[] }] 33 0 #[] #[])
  fields := #[]
  methods := #[k0m0]
  instanceTypes := #[]
  staticTypes := #[]
  resolved := Array.replicate 124 none
  statics := none }

def pool1 : Array CpInfo := pool [(2, .class_ 4), (1, u "java/lang/Object"), (0, u "<init>"), (0, u "()V"), (0, .integer 65535), (0, .integer 16777215), (0, .methodref 10 11), (0, .class_ 12), (0, .nameAndType 13 14), (0, u "com/example/duanfu/duanfu/model/Tlv"), (0, u "tagBytes"), (0, u "(I)[B"), (0, .class_ 16), (0, u "com/example/duanfu/duanfu/model/TlvTagBytesPinLaw"), (2, u "law"), (0, u "(II)Z")] 5

def k1m0 : Method := { name := "<init>", desc := "()V", sig := { parameters := [], returnType := none }, accessFlags := 1, code := none }
def k1c1 : Code := { maxStack := 3, maxLocals := 7, code := code, exceptionTable := #[], attributes := #[] }
def k1m1 : Method := { name := "law", desc := "(II)Z", sig := { parameters := [.int, .int], returnType := some .boolean }, accessFlags := 9, code := some k1c1 }
/-- com/example/duanfu/duanfu/model/TlvTagBytesPinLaw -/
def k1 : Class := { plain "com/example/duanfu/duanfu/model/TlvTagBytesPinLaw" (some 0) with
  accessFlags := 49
  interfaces := #[]
  cf := some (fileOf pool1 15 #[] #[{ accessFlags := 1, nameIndex := 5, descriptorIndex := 6, attributes := #[] }, { accessFlags := 9, nameIndex := 19, descriptorIndex := 20, attributes := #[] }] 49 2 #[] #[])
  fields := #[]
  methods := #[k1m0, k1m1]
  instanceTypes := #[]
  staticTypes := #[]
  resolved := Array.replicate 26 none
  statics := none }

def pool2 : Array CpInfo := pool [(2, .class_ 4), (1, u "java/lang/Object"), (0, u "<init>"), (0, u "()V"), (1, .class_ 10), (1, u "com/example/duanfu/duanfu/model/Tlv"), (0, u "tagBytes"), (0, u "(I)[B"), (9, .integer 65535), (9, .class_ 34), (1, u "com/example/duanfu/duanfu/model/Tlv$Header"), (43, .class_ 79), (0, u "com/example/duanfu/duanfu/model/Tlv$DolEntry")] 36

def k2m0 : Method := { name := "<init>", desc := "()V", sig := { parameters := [], returnType := none }, accessFlags := 2, code := none }
def k2c1 : Code := { maxStack := 6, maxLocals := 4, code := prog_65_method_3_code, exceptionTable := #[], attributes := #[] }
def k2m1 : Method := { name := "tagBytes", desc := "(I)[B", sig := { parameters := [.int], returnType := some (.array .byte) }, accessFlags := 9, code := some k2c1 }
/-- com/example/duanfu/duanfu/model/Tlv -/
def k2 : Class := { plain "com/example/duanfu/duanfu/model/Tlv" (some 0) with
  accessFlags := 49
  interfaces := #[]
  cf := some (fileOf pool2 8 #[.nestMembers #[32, 78]] #[{ accessFlags := 2, nameIndex := 5, descriptorIndex := 6, attributes := #[] }, { accessFlags := 9, nameIndex := 11, descriptorIndex := 12, attributes := #[] }] 49 2 #[] #[])
  fields := #[]
  methods := #[k2m0, k2m1]
  instanceTypes := #[]
  staticTypes := #[]
  resolved := Array.replicate 116 none
  statics := none }

def pool3 : Array CpInfo := pool [(1, u "java/lang/Cloneable"), (0, .class_ 1), (0, u "java/lang/Object"), (0, .class_ 3)] 3

/-- java/lang/Cloneable -/
def k3 : Class := { plain "java/lang/Cloneable" (some 0) with
  accessFlags := 1537
  interfaces := #[]
  cf := some (fileOf pool3 2 #[] #[] 1537 4 #[] #[])
  fields := #[]
  methods := #[]
  instanceTypes := #[]
  staticTypes := #[]
  resolved := Array.replicate 8 none
  statics := none }

def pool4 : Array CpInfo := pool [(1, u "java/io/Serializable"), (0, .class_ 1), (0, u "java/lang/Object"), (0, .class_ 3)] 3

/-- java/io/Serializable -/
def k4 : Class := { plain "java/io/Serializable" (some 0) with
  accessFlags := 1537
  interfaces := #[]
  cf := some (fileOf pool4 2 #[] #[] 1537 4 #[] #[])
  fields := #[]
  methods := #[]
  instanceTypes := #[]
  staticTypes := #[]
  resolved := Array.replicate 8 none
  statics := none }

/-- the primitive byte -/
def k5 : Class := { plain "byte" none with kind := .primitive 'B', accessFlags := 0x411 }
/-- [B -/
def k6 : Class := { plain "[B" (some 0) with kind := .array 5 .byte, interfaces := #[3, 4], accessFlags := 1041 }

/-- the primitive int -/
def k7 : Class := { plain "int" none with kind := .primitive 'I', accessFlags := 0x411 }
/-- [I -/
def k8 : Class := { plain "[I" (some 0) with kind := .array 7 .int, interfaces := #[3, 4], accessFlags := 1041 }

def heap : Heap := #[]
def classes : Array Class := #[k0, k1, k2, k3, k4, k5, k6, k7, k8]
def interned : List (Array UInt16 × Addr) := []
def slotsUsed : Nat := 0
def theMethod : MethodId := ⟨1, 1⟩
def args0 : Array Value := #[.int 70000, .int 2]
def aboutOver (below : List Frame) : State where
  vm := { classes := classes, interned := interned.toArray }
  heap := heap
  slotsUsed := slotsUsed
  threads := #[{ frames := .invoking theMethod args0 :: below }]
def below0 : List Frame := [.native { method := ⟨0, 0⟩, args := #[] }]
def about1 : State := aboutOver below0
def p0 : Program := .bare "" "" ""
def e0 : Env := launch0.env 0 0 0
theorem w_frames : about1.frames = Frame.invoking theMethod args0 :: below0 := rfl
set_option maxRecDepth 65536 in
theorem w_args : argsFit about1.vm theMethod args0 = true := by decide +kernel
set_option maxRecDepth 65536 in
theorem w_heap : heapFits about1 = true := by decide +kernel
set_option maxRecDepth 65536 in
theorem w_runnable : about1.curStatus? = some .runnable := by decide +kernel
set_option maxRecDepth 65536 in
theorem w_alone : about1.alone = true := by decide +kernel
set_option maxRecDepth 65536 in
theorem w_named : about1.methodNamed? x = some theMethod := by decide +kernel
set_option maxRecDepth 65536 in
theorem w_hears : about1.hears theMethod below0 = true := by decide +kernel
set_option maxRecDepth 65536 in
theorem w_ripe : about1.ripe theMethod args0 below0 = true := by decide +kernel
theorem w_running : about1.status = .running := rfl
set_option maxRecDepth 65536 in
theorem w_room : about1.hasRoom e0.platform room_1 = true :=
  launch0.hasRoom_least _ room_1 (by decide +kernel) (by decide +kernel) (by decide +kernel) (by decide +kernel) (by decide +kernel) (by decide +kernel)
theorem allAtoms_all (ts : List Jvm.Cond) (a : Array Jvm.Value) (st : Jvm.State) : (allAtoms ts).before a st = ts.all (fun c => c.before a st) := by
  induction ts with
  | nil => rfl
  | cons c t ih =>
    show (Jvm.Cond.and c (allAtoms t)).before a st = _
    rw [Jvm.Cond.before_and, ih, List.all_cons]
def words1 : List Jvm.Cond := Jvm.Cond.code x code maxLocals ret :: tables_1
/-- a 'code' word, met by the world's own term for the bytes: nothing is compared byte by byte -/
theorem code_word {y : MethodName} {bytes : ByteArray} {mx : Nat} {rt : Option FieldType} {a : Array Value} {s : State} {m : MethodId} {meth : Method} {c : Code} (h1 : s.methodNamed? y = some m) (h2 : s.vm.method? m = some meth) (h3 : meth.code = some c) (h4 : c.code = bytes)
    (h5 : (c.maxLocals == mx && c.exceptionTable.isEmpty && decide (c.maxStack ≤ mostOperands) && decide (meth.sig.returnType = rt) && !meth.locks && decide (parseMethodDescriptor y.desc = some meth.sig)) = true) : (Jvm.Cond.code y bytes mx rt).before a s = true := by
  simp only [Bool.and_eq_true, beq_iff_eq, Bool.not_eq_true', decide_eq_true_eq] at h5
  obtain ⟨⟨⟨⟨⟨g1, g2⟩, g3⟩, g4⟩, g5⟩, g6⟩ := h5
  simp [Cond.before, Cond.holds, Cond.value, h1, h2, h3, h4, g1, g2, g3, g4, g5, g6]
def isCode : Jvm.Cond → Bool
  | .code _ _ _ _ => true
  | _ => false
theorem all_split {L : List Jvm.Cond} {P : Jvm.Cond → Bool} (h1 : L.all (fun c => isCode c || P c) = true) (h2 : ∀ c ∈ L.filter isCode, P c = true) : L.all P = true := by
  refine List.all_eq_true.mpr fun c hc => ?_
  have h := List.all_eq_true.mp h1 c hc
  rcases Bool.eq_false_or_eq_true (isCode c) with hi | hi
  · exact h2 c (List.mem_filter.mpr ⟨hc, hi⟩)
  · simpa [hi] using h
set_option maxRecDepth 65536 in
theorem w_c0 : (Jvm.Cond.code x code maxLocals ret).before args0 about1 = true := code_word (m := ⟨1, 1⟩) (meth := k1m1) (c := k1c1) (by decide +kernel) rfl rfl rfl (by decide +kernel)
set_option maxRecDepth 65536 in
theorem w_c1 : (Jvm.Cond.code ({ cls := "com/example/duanfu/duanfu/model/Tlv", name := "tagBytes", desc := "(I)[B" } : Jvm.MethodName) prog_65_method_3_code (4 : Nat) (Option.some (Jvm.ClassFile.FieldType.array Jvm.ClassFile.FieldType.byte))).before args0 about1 = true := code_word (m := ⟨2, 1⟩) (meth := k2m1) (c := k2c1) (by decide +kernel) rfl rfl rfl (by decide +kernel)
def codes1 : List Jvm.Cond := [Jvm.Cond.code x code maxLocals ret, Jvm.Cond.code ({ cls := "com/example/duanfu/duanfu/model/Tlv", name := "tagBytes", desc := "(I)[B" } : Jvm.MethodName) prog_65_method_3_code (4 : Nat) (Option.some (Jvm.ClassFile.FieldType.array Jvm.ClassFile.FieldType.byte))]
set_option maxRecDepth 65536 in
theorem codes_eq : words1.filter isCode = codes1 := rfl
theorem w_codes : ∀ c ∈ words1.filter isCode, c.before args0 about1 = true := by
  rw [codes_eq]
  intro c hc
  simp only [codes1, List.mem_cons, List.not_mem_nil, or_false] at hc
  rcases hc with rfl | rfl
  · exact w_c0
  · exact w_c1
set_option maxRecDepth 65536 in
theorem w_t1 : words1.all (fun c => isCode c || c.before args0 about1) = true := by decide +kernel
theorem w_tables : (allAtoms (Jvm.Cond.code x code maxLocals ret :: tables_1)).before args0 about1 = true := by
  rw [allAtoms_all]
  show words1.all (fun c => c.before args0 about1) = true
  refine all_split ?_ w_codes
  rw [w_t1]
set_option maxRecDepth 65536 in
theorem w_case : (Jvm.Cond.and given_1 narrow_1).before args0 about1 = true := by decide +kernel
theorem w_applies : (headSpec (Jvm.Cond.code x code maxLocals ret :: tables_1) room_1).applies x e0.platform about1 = true :=
  (Spec.applies_iff w_frames).mpr ⟨w_running, w_runnable, w_alone, w_named, w_hears, w_ripe, w_room, w_tables⟩
theorem atStart : AtStart classFile x code maxLocals ret World_1 tables_1 room_1 Calls_1 rest_1 Pre_1 launch0 p0 e0 about1 theMethod args0 below0 :=
  ⟨lists_1, trivial, launch0.admits_env _ _ _, launch0.least_env, fairChoices_fair.cas, fairChoices_fair.clock, w_frames, w_args, w_heap, w_applies, trivial, trivial, w_case⟩
end start1
theorem witness_1 : WitnessClaimed_1 := ⟨start1.p0, start1.e0, start1.about1, start1.theMethod, start1.args0, start1.below0, start1.atStart⟩
end Jvm.Pilot.@@N@@
